import PyProof.Rows.All
import Wide.All
import OpenK.AllK
import Wide.FinOn
import PyProof.Rows.StrSplitMax
import PySem.Challenge.RW_kp0109_01
set_option Elab.async false
set_option maxRecDepth 100000
set_option linter.all false
set_option maxHeartbeats 4000000
set_option compiler.extract_closed false
set_option genSizeOf false
set_option genInjectivity false
section
open PySem PySem.W PyProof.Rows
set_option maxHeartbeats 0
namespace Mine
open_top hd for PySem.Challenge.rw_kp0109_01.row
end Mine
end
section
open PySem
set_option tactic.hygienic false
namespace Mine
open Builtin.Str
theorem nA {n i k : Nat} (h : n - i = k + 1) : n - (i + 1) = k := congrArg Nat.pred h
theorem nB {n i k : Nat} (h : n - i = k + 1) : i < n := Nat.sub_pos_iff_lt.mp (h ▸ Nat.succ_pos k)
theorem nC {n i : Nat} (h : n - i = 0) (h' : i <= n) : i = n := Nat.le_antisymm h' (Nat.sub_eq_zero_iff_le.mp h)
theorem nD {a n m : Nat} (h : a <= n) (hm : n <= m) : a - 1 <= m := Nat.le_trans (Nat.sub_le a 1) (Nat.le_trans h hm)
theorem nE {a n : Nat} (h : a <= n) (hn : n <= 1000000) : (a : Int) < 2 ^ 63 := Int.lt_of_le_of_lt (Int.ofNat_le.mpr (Nat.le_trans h hn)) (by decide)
theorem nF {x : Int} {n : Nat} (h0 : 0 <= x) (h : x < n) : x.toNat < n := (Int.toNat_lt h0).mpr h
theorem nJ (n : Nat) : ((n : Int) == 1) = (n == 1) := by rw [Bool.eq_iff_iff, beq_iff_eq, beq_iff_eq]; exact Int.ofNat_inj (n := 1)
theorem nG {a i n : Nat} (h : a <= min i n) {m : Nat} (hm : n <= m) : a <= m := Nat.le_trans h (Nat.le_trans (Nat.min_le_right i n) hm)
theorem nH {a i n b m : Nat} (h : a <= b + min i n) (hm : b + n <= m) : a <= m := Nat.le_trans h (Nat.le_trans (Nat.add_le_add_left (Nat.min_le_right i n) b) hm)
noncomputable def rp (p r : List Nat) : Nat -> List Nat -> List Nat
 | _, [] => []
 | n + 1, _ :: l => rp p r n l
 | 0, a :: l => if p.isPrefixOf (a :: l) = true then r ++ rp p r (p.length - 1) l else a :: rp p r 0 l
theorem rp_nil {p r : List Nat} (n : Nat) : rp p r n [] = [] := by cases n <;> rfl
theorem rp_skip {p r : List Nat} (n : Nat) : ∀ (l : List Nat), rp p r n l = rp p r 0 (l.drop n) := by
 induction n with
 | zero => exact fun _ => rfl
 | succ n ih =>
  intro l
  cases l with
  | nil => rw [rp_nil, List.drop_nil, rp_nil]
  | cons a l => exact ih l
theorem rp_hit {p r l : List Nat} (hp : p ≠ []) : rp p r 0 (p ++ l) = r ++ rp p r 0 l := by
 cases p with
 | nil => exact absurd rfl hp
 | cons a p =>
  show (if (a :: p).isPrefixOf (a :: (p ++ l)) = true then r ++ rp (a :: p) r ((a :: p).length - 1) (p ++ l) else _) = _
  have hq : (a :: p).isPrefixOf (a :: (p ++ l)) = true := List.isPrefixOf_iff_prefix.mpr ⟨l, rfl⟩
  rw [if_pos hq, rp_skip]
  simp
theorem rp_miss {p r l : List Nat} {a : Nat} (h : ¬ p <+: a :: l) : rp p r 0 (a :: l) = a :: rp p r 0 l := by
 show (if p.isPrefixOf (a :: l) = true then _ else _) = _
 rw [if_neg fun q => h (List.isPrefixOf_iff_prefix.mp q)]
theorem rp_copy {p r : List Nat} (u l : List Nat) (h : ∀ v w, u = v ++ w -> w ≠ [] -> ¬ p <+: w ++ l) : rp p r 0 (u ++ l) = u ++ rp p r 0 l := by
 induction u with
 | nil => rfl
 | cons a u ih => exact (rp_miss (h [] (a :: u) rfl (List.cons_ne_nil _ _))).trans (congrArg (a :: ·) (ih fun v w e hw => h (a :: v) w (congrArg (a :: ·) e) hw))
theorem at_iff (x y : Str) (k : Nat) : StrLaws.At x y x.length k ↔ k + y.length <= x.length /\ y.cps.toList <+: x.cps.toList.drop k := by
 unfold StrLaws.At
 rw [StrLaws.subAt_eq]
 have ey : y.length = y.cps.toList.length := by simp [Str.length]
 have ex : x.length = x.cps.toList.length := by simp [Str.length]
 constructor
 ·rintro ⟨h1, h2⟩
  refine ⟨h1, ?_⟩
  rw [<- eq_of_beq h2]
  exact List.take_prefix _ _
 ·rintro ⟨h1, h2⟩
  refine ⟨h1, ?_⟩
  rw [ey, List.prefix_iff_eq_take.mp h2]
  simp
theorem at_of (x y : Str) (k : Nat) (hk : k <= x.length) (h : y.cps.toList <+: x.cps.toList.drop k) : StrLaws.At x y x.length k := by
 rw [at_iff]
 refine ⟨?_, h⟩
 have := h.length_le
 have ey : y.length = y.cps.toList.length := by simp [Str.length]
 have ex : x.length = x.cps.toList.length := by simp [Str.length]
 rw [List.length_drop] at this
 lia
theorem rp_range {x y : Str} {r : List Nat} (hy : 1 <= y.length) {c : Nat} (hc : c <= x.length) (m : Nat) : ∀ (a : Nat), a + m = c -> (∀ k, a <= k -> k < c -> ¬ StrLaws.At x y x.length k) -> rp y.cps.toList r 0 (x.cps.toList.drop a) = (x.cps.toList.drop a).take m ++ rp y.cps.toList r 0 (x.cps.toList.drop c) := by
 induction m with
 | zero => intro a e _; subst e; rfl
 | succ m ih =>
  intro a e h
  have ex : x.length = x.cps.toList.length := by simp [Str.length]
  have hlt : a < x.cps.toList.length := by lia
  rw [List.drop_eq_getElem_cons hlt]
  rw [rp_miss (fun q => h a (Nat.le_refl _) (by lia) (at_of x y a (by lia) (by rw [List.drop_eq_getElem_cons hlt]; exact q)))]
  rw [ih (a + 1) (by rw [<- e, Nat.add_assoc, Nat.add_comm 1]) fun k h1 h2 => h k (Nat.le_of_succ_le h1) h2]
  rfl
theorem rp_none {x y : Str} {r : List Nat} (hy : 1 <= y.length) {a : Nat} (ha : a <= x.length) (h : ∀ k, a <= k -> ¬ StrLaws.At x y x.length k) : rp y.cps.toList r 0 (x.cps.toList.drop a) = x.cps.toList.drop a := by
 have ex : x.length = x.cps.toList.length := by simp [Str.length]
 rw [rp_range hy (Nat.le_refl _) (x.length - a) a (Nat.add_sub_cancel' ha) fun k h1 _ => h k h1]
 rw [List.drop_of_length_le (Nat.le_of_eq ex.symm), rp_nil, List.append_nil, List.take_of_length_le]
 rw [List.length_drop]; lia
theorem join_rp {x y z : Str} (hy : 1 <= y.length) (cuts : List Nat) : ∀ (a f : Nat), a <= x.length -> StrLaws.ChainG x y x.length a cuts f -> (∀ k, f <= k -> ¬ StrLaws.At x y x.length k) ->
  (Str.join z (StrLaws.partsFrom x y.length a cuts)).cps.toList = rp y.cps.toList z.cps.toList 0 (x.cps.toList.drop a) := by
 induction cuts with
 | nil =>
  intro a f ha e hn
  have e : f = a := e
  subst e
  rw [rp_none hy ha hn]
  show (strSub x f x.length).cps.toList = _
  have ex : x.length = x.cps.toList.length := by simp [Str.length]
  rw [StrLaws.strSub_toList, List.take_of_length_le]
  rw [List.length_drop]; lia
 | cons c cuts ih =>
  intro a f ha h hn
  have hA := (at_iff x y c).mp h.2.1
  have ey : y.length = y.cps.toList.length := by simp [Str.length]
  have ih := ih (c + y.length) f hA.1 h.2.2.2 hn
  obtain ⟨p, q, e⟩ := StrLaws.partsFrom_ne x y.length (c + y.length) cuts
  show (Str.join z (strSub x a c :: StrLaws.partsFrom x y.length (c + y.length) cuts)).cps.toList = _
  rw [e] at ih ⊢
  show (strSub x a c ++ z ++ Str.join z (p :: q)).cps.toList = _
  rw [rp_range hy (by lia : c <= x.length) (c - a) a (Nat.add_sub_cancel' h.1) h.2.2.1]
  obtain ⟨t, ht⟩ := hA.2
  have hd : x.cps.toList.drop (c + y.length) = t := by
   rw [<- List.drop_drop, <- ht, ey]; simp
  rw [<- ht, rp_hit (by intro q; rw [q] at ey; simp at ey; lia), <- hd]
  simp only [Str.cps_append, Array.toList_append]
  rw [ih, StrLaws.strSub_toList, List.append_assoc]
theorem replace_rp (x y z : Str) (hy : 1 <= y.length) : (Txt.replace x y z).cps.toList = rp y.cps.toList z.cps.toList 0 x.cps.toList := by
 obtain ⟨f, hg, hn⟩ := StrLaws.occ_tight x y hy
 have h0 : (y.length == 0) = false := by simpa using (by lia : y.length ≠ 0)
 unfold Txt.replace
 rw [h0, Bool.false_and, Bool.or_false]
 have key := join_rp (z := z) hy _ 0 f (Nat.zero_le _) hg hn
 rw [<- StrLaws.partsBetween_eq, <- StrLaws.glued_eq_join, List.drop_zero] at key
 cases he : (occurrences x y 0 x.length (x.length + 1)).isEmpty
 ·rw [if_neg Bool.false_ne_true]; exact key
 ·rw [if_pos rfl, <- key, List.isEmpty_iff.mp he]
  show _ = (glued z (partsBetween x [] y.length)).cps.toList
  rw [StrLaws.glued_eq_join, StrLaws.partsBetween_eq]
  show _ = (strSub x 0 x.length).cps.toList
  rw [StrLaws.sub_whole]
noncomputable def esc1 (c : Nat) (r : List Nat) (l : List Nat) : List Nat := l.flatMap fun d => if d = c then r else [d]
theorem rp_one (c : Nat) (r : List Nat) (l : List Nat) : rp [c] r 0 l = esc1 c r l := by
 induction l with
 | nil => rfl
 | cons d l ih =>
  unfold esc1
  rw [List.flatMap_cons]
  by_cases e : d = c
  ·subst e
   rw [if_pos rfl]
   exact (rp_hit (p := [d]) (List.cons_ne_nil _ _)).trans (congrArg _ ih)
  ·rw [if_neg e, rp_miss (fun q => e (List.cons_prefix_cons.mp q).1.symm), ih]
   rfl
theorem esc1_none {c : Nat} {r l : List Nat} (h : c ∉ l) : esc1 c r l = l := by
 induction l with
 | nil => rfl
 | cons d l ih =>
  unfold esc1 at ih ⊢
  rw [List.flatMap_cons, if_neg (fun e => h (by rw [e]; exact List.mem_cons_self)), ih fun q => h (List.mem_cons_of_mem _ q)]
  rfl
theorem replace_esc1 (x z : Str) (c : Nat) : Txt.replace x ⟨#[c]⟩ z = ⟨(esc1 c z.cps.toList x.cps.toList).toArray⟩ := by
 apply Str.ext'
 apply Array.toList_inj.mp
 rw [replace_rp x ⟨#[c]⟩ z (Nat.le_refl 1)]
 exact rp_one _ _ _
noncomputable def ent (d : Nat) : List Nat :=
 if d = 38 then [38, 97, 109, 112, 59] else if d = 60 then [38, 108, 116, 59] else if d = 62 then [38, 103, 116, 59] else if d = 34 then [38, 113, 117, 111, 116, 59]
 else if d = 9 then [38, 35, 120, 57, 59] else if d = 10 then [38, 35, 120, 65, 59] else [38, 35, 120, 68, 59]
noncomputable abbrev Ents : List Nat := [38, 60, 62, 34, 9, 10, 13]
noncomputable def rend (t : Nat × Bool) : List Nat := if t.2 = true then ent t.1 else [t.1]
noncomputable def ToksOk (ts : List (Nat × Bool)) : Prop := ∀ t ∈ ts, (t.2 = true -> t.1 ∈ Ents) /\ (t.2 = false -> t.1 ≠ 38)
noncomputable def offs (c : Nat) (t : Nat × Bool) : Nat × Bool := if t = (c, true) then (c, false) else t
theorem ent_ne {c d : Nat} (hc : c ∈ Ents) (hd : d ∈ Ents) (h : c ≠ d) (rest : List Nat) : ¬ ent c <+: ent d ++ rest := by
 obtain ⟨i, _, h1, h2, h3⟩ := (show ∀ c ∈ Ents, ∀ d ∈ Ents, c ≠ d -> ∃ i, i < 5 /\ i < (ent c).length /\ i < (ent d).length /\ (ent c)[i]? ≠ (ent d)[i]? by decide +kernel) c hc d hd h
 rintro ⟨t, e⟩
 exact h3 (by rw [<- List.getElem?_append_left h1 (l₂ := t), e, List.getElem?_append_left h2])
theorem ent_head {c : Nat} (hc : c ∈ Ents) : ∃ t, ent c = 38 :: t := ⟨_, (show ∀ c ∈ Ents, ent c = 38 :: (ent c).tail by decide +kernel) c hc⟩
theorem ent_tail {d : Nat} (hd : d ∈ Ents) (v : List Nat) (a : Nat) (w : List Nat) (e : ent d = v ++ a :: w) (hv : v ≠ []) : a ≠ 38 := by
 refine (show ∀ d ∈ Ents, ∀ a ∈ (ent d).tail, a ≠ 38 by decide +kernel) d hd a ?_
 cases v with
 | nil => exact absurd rfl hv
 | cons x v => rw [e]; exact List.mem_append_right _ (.head _)
theorem rp_toks {c : Nat} (hc : c ∈ Ents) (ts : List (Nat × Bool)) (h : ToksOk ts) : rp (ent c) [c] 0 (ts.flatMap rend) = (ts.map (offs c)).flatMap rend := by
 induction ts with
 | nil => rfl
 | cons t ts ih =>
  obtain ⟨d, b⟩ := t
  have ih := ih fun t ht => h t (List.mem_cons_of_mem _ ht)
  have hd := h (d, b) List.mem_cons_self
  obtain ⟨tl, et⟩ := ent_head hc
  rw [List.flatMap_cons, List.map_cons, List.flatMap_cons, <- ih]
  cases b with
  | false =>
   have hne : d ≠ 38 := hd.2 rfl
   show rp (ent c) [c] 0 (d :: ts.flatMap rend) = rend (offs c (d, false)) ++ _
   rw [rp_miss (by rw [et]; intro q; exact hne (List.cons_prefix_cons.mp q).1.symm)]
   have : offs c (d, false) = (d, false) := if_neg (by intro q; cases q)
   rw [this]; rfl
  | true =>
   have hE : d ∈ Ents := hd.1 rfl
   by_cases e : d = c
   ·subst e
    have : offs d (d, true) = (d, false) := if_pos rfl
    rw [this]
    exact rp_hit (by rw [et]; simp)
   ·have : offs c (d, true) = (d, true) := if_neg (by intro q; exact e (Prod.mk.inj q).1)
    rw [this]
    show rp (ent c) [c] 0 (ent d ++ ts.flatMap rend) = ent d ++ _
    refine rp_copy _ _ fun v w ew hw => ?_
    cases v with
    | nil =>
     have : w = ent d := ew.symm
     subst this
     exact ent_ne hc hE (fun q => e q.symm) _
    | cons x v =>
     cases w with
     | nil => exact absurd rfl hw
     | cons a w =>
      have := ent_tail hE (x :: v) a w ew (by simp)
      rw [et]
      intro q
      exact this (List.cons_prefix_cons.mp q).1.symm
theorem offs_ok {c : Nat} (hc : c ≠ 38) {ts : List (Nat × Bool)} (h : ToksOk ts) : ToksOk (ts.map (offs c)) := by
 intro t ht
 obtain ⟨t', ht', rfl⟩ := List.mem_map.mp ht
 have := h t' ht'
 unfold offs
 split
 ·exact ⟨(fun q => by cases q), fun _ => hc⟩
 ·exact this
theorem offs_fst (c : Nat) (t : Nat × Bool) : (offs c t).1 = t.1 := by
 unfold offs
 split
 ·rename_i e; rw [e]
 ·rfl
theorem offs_keep {c : Nat} {t : Nat × Bool} (h : (offs c t).2 = true) : t.2 = true /\ t.1 ≠ c := by
 unfold offs at h
 split at h
 ·cases h
 ·rename_i e
  refine ⟨h, fun q => e ?_⟩
  obtain ⟨a, b⟩ := t
  simp only at q h
  rw [q, h]
noncomputable def plainL (l : List Nat) : List Nat := rp (ent 38) [38] 0 (rp (ent 13) [13] 0 (rp (ent 10) [10] 0 (rp (ent 9) [9] 0 (rp (ent 34) [34] 0 (rp (ent 62) [62] 0 (rp (ent 60) [60] 0 l))))))
theorem rend_off (ts : List (Nat × Bool)) (h : ∀ t ∈ ts, t.2 = false) : ts.flatMap rend = ts.map Prod.fst := by
 induction ts with
 | nil => rfl
 | cons t ts ih =>
  rw [List.flatMap_cons, List.map_cons, ih fun x hx => h x (List.mem_cons_of_mem _ hx)]
  unfold rend
  rw [h t List.mem_cons_self]
  rfl
theorem plain_toks (ts : List (Nat × Bool)) (h : ToksOk ts) : plainL (ts.flatMap rend) = ts.map Prod.fst := by
 unfold plainL
 have h1 := offs_ok (c := 60) (by decide) h
 have h2 := offs_ok (c := 62) (by decide) h1
 have h3 := offs_ok (c := 34) (by decide) h2
 have h4 := offs_ok (c := 9) (by decide) h3
 have h5 := offs_ok (c := 10) (by decide) h4
 have h6 := offs_ok (c := 13) (by decide) h5
 rw [rp_toks (by decide) _ h, rp_toks (by decide) _ h1, rp_toks (by decide) _ h2, rp_toks (by decide) _ h3, rp_toks (by decide) _ h4, rp_toks (by decide) _ h5, rp_toks (by decide) _ h6]
 rw [rend_off]
 ·simp only [List.map_map]
  apply List.map_congr_left
  intro t _
  simp only [Function.comp, offs_fst]
 ·intro t ht
  simp only [List.map_map] at ht
  obtain ⟨t', ht', rfl⟩ := List.mem_map.mp ht
  simp only [Function.comp]
  cases hb : (offs 38 (offs 13 (offs 10 (offs 9 (offs 34 (offs 62 (offs 60 t'))))))).2 with
  | false => rfl
  | true =>
   obtain ⟨b1, n1⟩ := offs_keep hb
   obtain ⟨b2, n2⟩ := offs_keep b1
   obtain ⟨b3, n3⟩ := offs_keep b2
   obtain ⟨b4, n4⟩ := offs_keep b3
   obtain ⟨b5, n5⟩ := offs_keep b4
   obtain ⟨b6, n6⟩ := offs_keep b5
   obtain ⟨b7, n7⟩ := offs_keep b6
   have := (h t' ht').1 b7
   simp only [offs_fst] at n1 n2 n3 n4 n5 n6 n7
   simp only [Ents, List.mem_cons, List.not_mem_nil, or_false] at this
   lia
noncomputable def escC (l : List Nat) : List Nat := esc1 13 (ent 13) (esc1 62 (ent 62) (esc1 60 (ent 60) (esc1 38 (ent 38) l)))
noncomputable def escA (l : List Nat) : List Nat := esc1 13 (ent 13) (esc1 10 (ent 10) (esc1 9 (ent 9) (esc1 34 (ent 34) (esc1 60 (ent 60) (esc1 38 (ent 38) l)))))
noncomputable def tokC (d : Nat) : Nat × Bool := (d, decide (d = 38 \/ d = 60 \/ d = 62 \/ d = 13))
noncomputable def tokA (d : Nat) : Nat × Bool := (d, decide (d = 38 \/ d = 60 \/ d = 34 \/ d = 9 \/ d = 10 \/ d = 13))
theorem esc1_no {c d : Nat} {r : List Nat} (h : d ≠ c) : esc1 c r [d] = [d] := (List.flatMap_singleton ..).trans (if_neg h)
theorem esc1_app (c : Nat) (r a b : List Nat) : esc1 c r (a ++ b) = esc1 c r a ++ esc1 c r b := by unfold esc1; rw [List.flatMap_append]
theorem escC_toks (l : List Nat) : escC l = (l.map tokC).flatMap rend := by
 induction l with
 | nil => rfl
 | cons d l ih =>
  rw [List.map_cons, List.flatMap_cons, <- ih]
  have e : escC (d :: l) = escC [d] ++ escC l := by
   show escC ([d] ++ l) = _
   unfold escC
   simp only [esc1_app]
  rw [e]
  congr 1
  by_cases h : d ∈ Ents
  ·exact (show ∀ d ∈ Ents, escC [d] = rend (tokC d) by decide +kernel) d h
  ·have hk : ∀ c ∈ Ents, d ≠ c := fun c hc q => h (q ▸ hc)
   have : tokC d = (d, false) := congrArg (Prod.mk d) (decide_eq_false fun q => by rcases q with q | q | q | q <;> exact hk _ (by decide) q)
   rw [this]
   unfold escC
   rw [esc1_no (hk 38 (by decide)), esc1_no (hk 60 (by decide)), esc1_no (hk 62 (by decide)), esc1_no (hk 13 (by decide))]
   rfl
theorem escA_toks (l : List Nat) : escA l = (l.map tokA).flatMap rend := by
 induction l with
 | nil => rfl
 | cons d l ih =>
  rw [List.map_cons, List.flatMap_cons, <- ih]
  have e : escA (d :: l) = escA [d] ++ escA l := by
   show escA ([d] ++ l) = _
   unfold escA
   simp only [esc1_app]
  rw [e]
  congr 1
  by_cases h : d ∈ Ents
  ·exact (show ∀ d ∈ Ents, escA [d] = rend (tokA d) by decide +kernel) d h
  ·have hk : ∀ c ∈ Ents, d ≠ c := fun c hc q => h (q ▸ hc)
   have : tokA d = (d, false) := congrArg (Prod.mk d) (decide_eq_false fun q => by rcases q with q | q | q | q | q | q <;> exact hk _ (by decide) q)
   rw [this]
   unfold escA
   rw [esc1_no (hk 38 (by decide)), esc1_no (hk 60 (by decide)), esc1_no (hk 34 (by decide)), esc1_no (hk 9 (by decide)), esc1_no (hk 10 (by decide)), esc1_no (hk 13 (by decide))]
   rfl
theorem tokC_ok (l : List Nat) : ToksOk (l.map tokC) := by
 intro t ht
 obtain ⟨d, _, rfl⟩ := List.mem_map.mp ht
 refine ⟨fun h => ?_, fun h q => of_decide_eq_false h (.inl q)⟩
 rcases of_decide_eq_true h with h | h | h | h <;> (rw [show (tokC d).1 = _ from h]; decide)
theorem tokA_ok (l : List Nat) : ToksOk (l.map tokA) := by
 intro t ht
 obtain ⟨d, _, rfl⟩ := List.mem_map.mp ht
 refine ⟨fun h => ?_, fun h q => of_decide_eq_false h (.inl q)⟩
 rcases of_decide_eq_true h with h | h | h | h | h | h <;> (rw [show (tokA d).1 = _ from h]; decide)
theorem raw_toks (l : List Nat) : (l.map fun d => (d, false)).flatMap rend = l := by
 induction l with
 | nil => rfl
 | cons d l ih => exact congrArg (d :: ·) ih
theorem plain_escC {pre post : List Nat} (h1 : 38 ∉ pre) (h2 : 38 ∉ post) (l : List Nat) : plainL (pre ++ escC l ++ post) = pre ++ l ++ post := by
 have e : pre ++ escC l ++ post = ((pre.map fun d => (d, false)) ++ l.map tokC ++ post.map fun d => (d, false)).flatMap rend := by
  rw [List.flatMap_append, List.flatMap_append, raw_toks, raw_toks, escC_toks]
 rw [e, plain_toks]
 ·simp only [List.map_append, List.map_map]
  have e1 : ∀ l : List Nat, l.map (Prod.fst ∘ fun d => (d, false)) = l := fun l => by
   conv => rhs; rw [<- List.map_id l]
   rfl
  have e2 : l.map (Prod.fst ∘ tokC) = l := by
   conv => rhs; rw [<- List.map_id l]
   rfl
  rw [e1, e1, e2]
 ·intro t ht
  rcases List.mem_append.mp ht with ht | ht
  ·rcases List.mem_append.mp ht with ht | ht
   ·obtain ⟨d, hd, rfl⟩ := List.mem_map.mp ht
    exact ⟨(fun q => by cases q), fun _ q => h1 (by rw [<- q]; exact hd)⟩
   ·exact tokC_ok l t ht
  ·obtain ⟨d, hd, rfl⟩ := List.mem_map.mp ht
   exact ⟨(fun q => by cases q), fun _ q => h2 (by rw [<- q]; exact hd)⟩
theorem plain_escA (l : List Nat) : plainL (escA l) = l := by
 rw [escA_toks, plain_toks _ (tokA_ok l), List.map_map]
 conv => rhs; rw [<- List.map_id l]
 rfl
theorem rend_mem {t : Nat × Bool} {d : Nat} (h : d ∈ rend t) : (t.2 = false /\ d = t.1) \/ (t.2 = true /\ d ∈ ent t.1) := by
 unfold rend at h
 split at h
 ·exact .inr ⟨by assumption, h⟩
 ·rename_i q
  exact .inl ⟨by simpa using q, by simpa using h⟩
theorem iteP {α : Type} {P : α -> Prop} {c : Prop} [Decidable c] {a b : α} (ha : P a) (hb : P b) : P (if c then a else b) := by split; exact ha; exact hb
theorem ent_all {P : List Nat -> Prop} (h : ∀ d ∈ Ents, P (ent d)) (d : Nat) : P (ent d) :=
 have k : ∀ c, c ∈ Ents -> P (ent c) := h
 iteP (P := P) (k 38 (by decide)) (iteP (P := P) (k 60 (by decide)) (iteP (P := P) (k 62 (by decide)) (iteP (P := P) (k 34 (by decide)) (iteP (P := P) (k 9 (by decide)) (iteP (P := P) (k 10 (by decide)) (k 13 (by decide)))))))
theorem ent_mem {c d : Nat} (h : d ∈ ent c) : d ≠ 60 /\ d ≠ 62 /\ d ≠ 34 := ent_all (P := fun l => ∀ d ∈ l, d ≠ 60 /\ d ≠ 62 /\ d ≠ 34) (by decide +kernel) c d h
theorem escC_mem {l : List Nat} {d : Nat} (h : d ∈ escC l) : d ≠ 60 /\ d ≠ 62 := by
 rw [escC_toks] at h
 obtain ⟨t, ht, hd⟩ := List.mem_flatMap.mp h
 obtain ⟨x, _, rfl⟩ := List.mem_map.mp ht
 rcases rend_mem hd with ⟨h1, h2⟩ | ⟨_, h2⟩
 ·have := of_decide_eq_false h1
  rw [h2]
  show x ≠ 60 /\ x ≠ 62
  lia
 ·have := ent_mem h2
  exact ⟨this.1, this.2.1⟩
theorem escA_mem {l : List Nat} {d : Nat} (h : d ∈ escA l) : d ≠ 60 /\ d ≠ 34 := by
 rw [escA_toks] at h
 obtain ⟨t, ht, hd⟩ := List.mem_flatMap.mp h
 obtain ⟨x, _, rfl⟩ := List.mem_map.mp ht
 rcases rend_mem hd with ⟨h1, h2⟩ | ⟨_, h2⟩
 ·have := of_decide_eq_false h1
  rw [h2]
  show x ≠ 60 /\ x ≠ 34
  lia
 ·have := ent_mem h2
  exact ⟨this.1, this.2.2⟩
theorem rend_len (t : Nat × Bool) : (rend t).length <= 6 /\ 1 <= (rend t).length :=
 iteP (P := fun l : List Nat => l.length <= 6 /\ 1 <= l.length) (ent_all (P := fun l : List Nat => l.length <= 6 /\ 1 <= l.length) (by decide +kernel) _) ⟨Nat.le_add_left 1 5, Nat.le_refl 1⟩
theorem flat_len (ts : List (Nat × Bool)) : (ts.flatMap rend).length <= 6 * ts.length /\ ts.length <= (ts.flatMap rend).length := by
 induction ts with
 | nil => exact ⟨Nat.le_refl _, Nat.le_refl _⟩
 | cons t ts ih =>
  have := rend_len t
  rw [List.flatMap_cons, List.length_append, List.length_cons, Nat.mul_succ, Nat.add_comm]
  exact ⟨Nat.add_le_add ih.1 this.1, Nat.add_le_add ih.2 this.2⟩
theorem escC_len (l : List Nat) : (escC l).length <= 6 * l.length /\ l.length <= (escC l).length := by
 rw [escC_toks]
 have := flat_len (l.map tokC)
 simpa using this
theorem escA_len (l : List Nat) : (escA l).length <= 6 * l.length /\ l.length <= (escA l).length := by
 rw [escA_toks]
 have := flat_len (l.map tokA)
 simpa using this
theorem rp_len {p r : List Nat} (hr : r.length <= 1) (n : Nat) (l : List Nat) (hp : p ≠ []) : (rp p r n l).length <= l.length := by
 induction l generalizing n with
 | nil => rw [rp_nil]; exact Nat.le_refl _
 | cons a l ih =>
  cases n with
  | succ n => exact Nat.le_succ_of_le (ih n)
  | zero =>
   refine iteP (P := fun x : List Nat => x.length <= l.length + 1) ?_ (Nat.succ_le_succ (ih 0))
   rw [List.length_append, Nat.add_comm]
   exact Nat.add_le_add (ih _) hr
end Mine
end
open PySem PySem.W PyProof.Rows PySem.Calls
namespace Mine
set_option tactic.hygienic false
theorem wb {α β : Type} {M : Model} {A : Around} {E : Value -> Shared -> Prop} {s : Shared} {m : Sem α} {f : α -> Sem β} {Q : β -> Shared -> Prop} (h : wpAny M A m (fun a s' => wpAny M A (f a) Q E s') E s) : wpAny M A (m >>= f) Q E s := wpAny_bind h
theorem wq {α : Type} {M : Model} {A : Around} {E : Value -> Shared -> Prop} {s : Shared} {a : α} {Q : α -> Shared -> Prop} (h : Q a s) : wpAny M A (Pure.pure a) Q E s := wpAny_pure h
theorem memR {α : Type _} {b : α} (as : List α) {bs : List α} (h : b ∈ bs) : b ∈ as ++ bs := List.mem_append_right as h
theorem memL {α : Type _} {a : α} {as : List α} (bs : List α) (h : a ∈ as) : a ∈ as ++ bs := List.mem_append_left bs h
theorem lnM {α : Type _} {β : Type _} {as : List α} (f : α -> β) : (as.map f).length = as.length := List.length_map f
def sNd (k : Lean.Name) (a : Array Lean.Syntax) : Lean.Syntax := .node .none k a
def sAt (s : String) : Lean.Syntax := .atom .none s
def sId (n : Lean.Name) : Lean.Syntax := .ident .none n.toString.toRawSubstring n []
def sHo : Lean.Syntax := sNd `Lean.Parser.Term.hole #[sAt "_"]
def sRf : Lean.Syntax := sNd `Lean.Parser.Tactic.tacticRfl #[sAt "rfl"]
def sSq (l : Array Lean.Syntax) : Lean.Syntax := sNd `Lean.Parser.Tactic.tacticSeq #[sNd `Lean.Parser.Tactic.tacticSeq1Indented #[sNd `null l]]
def sEx (t : Lean.Syntax) : Lean.Syntax := sNd `Lean.Parser.Tactic.exact #[sAt "exact", t]
def sAn (l : Array Lean.Syntax) : Lean.Syntax := sNd `Lean.Parser.Term.anonymousCtor #[sAt "⟨", sNd `null (l ++ #[sId `rfl]), sAt "⟩"]
def sIn (l : Array Lean.Syntax) : Lean.Syntax := sNd `Lean.Parser.Tactic.intro #[sAt "intro", sNd `null l]
def sIj (n : Lean.Name) (t : Lean.Syntax) : Lean.Syntax := sNd `group #[sAt "|", sSq #[sEx (sNd `Lean.Parser.Term.app #[sNd `Lean.Parser.Term.dotIdent #[sAt ".", sId n], sNd `null #[t]])]]
def aRfl : Lean.Syntax := sSq #[sRf]
def aIr : Lean.Syntax := sSq #[sIn #[sHo], sAt ";", sRf]
def aIir : Lean.Syntax := sSq #[sIn #[sHo, sHo], sAt ";", sRf]
def aEx : Lean.Syntax := sSq #[sEx (sAn #[sHo, sAt ","])]
def aDec : Lean.Syntax := sSq #[sNd `Lean.Parser.Tactic.decide #[sAt "decide", sNd `Lean.Parser.Tactic.optConfig #[sNd `null #[]]]]
def aWur : Lean.Syntax := sSq #[sNd `Lean.Parser.Tactic.withUnfoldingAll #[sAt "with_unfolding_all", sSq #[sRf]]]
def aTrv : Lean.Syntax := sSq #[sNd `Lean.Parser.Tactic.tacticTrivial #[sAt "trivial"]]
def aItr : Lean.Syntax := sSq #[sNd `Lean.Parser.Tactic.intros #[sAt "intros", sNd `null #[]], sAt ";", sNd `Lean.Parser.Tactic.tacticTrivial #[sAt "trivial"]]
def aLet : Lean.Syntax := sSq #[sNd `Lean.Parser.Tactic.first #[sAt "first", sNd `null #[sIj `inl (sNd `Lean.Parser.Term.fun #[sAt "fun", sNd `Lean.Parser.Term.basicFun #[sNd `null #[sHo, sHo], sNd `null #[], sAt "=>", sId `rfl]]), sIj `inr (sAn #[sHo, sAt ",", sHo, sAt ",", sHo, sAt ","])]]]
theorem wm {α : Type} {M : Model} {A : Around} {t : Sem α} {Q Q' : α -> Shared -> Prop} {E : Value -> Shared -> Prop} {s : Shared} (h : wpAny M A t Q E s) (k : ∀ a s', Q a s' -> Q' a s') : wpAny M A t Q' E s := wpAny_mono h k fun _ _ e => e
structure View where
 mem : Addr -> Option Obj
 tk : Nat
structure VLe (V V' : View) : Prop where
 mem : ∀ a o, V.mem a = some o -> V'.mem a = some o
 tk : V.tk <= V'.tk
theorem VLe.refl (V : View) : VLe V V := ⟨fun _ _ e => e, Nat.le_refl _⟩
theorem VLe.trans {V V' V'' : View} (h : VLe V V') (h' : VLe V' V'') : VLe V V'' := ⟨fun a o e => h'.mem a o (h.mem a o e), Nat.le_trans h.tk h'.tk⟩
inductive PV where
 | none | bool (b : Bool) | int (i : Int) | str (s : Str)
 | tup (l : List PV) | lst (l : List PV) | raw (v : Value) | tstr (x : Str) (t : Tok)
mutual
inductive VR (V : View) : PV -> Value -> Prop
 | none : VR V .none .none
 | bool (b : Bool) : VR V (.bool b) (.bool b)
 | int (i : Int) (t : Tok) : VR V (.int i) (.int i t)
 | str (x : Str) (t : Tok) : VR V (.str x) (.str x t)
 | raw (v : Value) : VR V (.raw v) v
 | tstr (x : Str) (t : Tok) : 0 < t -> t < V.tk -> VR V (.tstr x t) (.str x t)
 | tup {a : Addr} {ps : List PV} {vs : List Value} {n : Nat} : V.mem a = some (seqObj "tuple" vs.toArray n) -> VRs V ps vs -> VR V (.tup ps) (.ref a)
 | lst {a : Addr} {ps : List PV} {vs : List Value} {n : Nat} : V.mem a = some (seqObj "list" vs.toArray n) -> VRs V ps vs -> VR V (.lst ps) (.ref a)
inductive VRs (V : View) : List PV -> List Value -> Prop
 | nil : VRs V [] []
 | cons {p : PV} {v : Value} {ps : List PV} {vs : List Value} : VR V p v -> VRs V ps vs -> VRs V (p :: ps) (v :: vs)
end
theorem VR.seqs {V V' : View} (ks : ∀ a cl xs n, V.mem a = some (seqObj cl xs n) -> V'.mem a = some (seqObj cl xs n)) (kt : V.tk <= V'.tk) {p : PV} {v : Value} (h : VR V p v) : VR V' p v :=
 h.rec (motive_1 := fun p v _ => VR V' p v) (motive_2 := fun ps vs _ => VRs V' ps vs) .none .bool .int .str .raw (fun x t h0 h => .tstr x t h0 (Nat.lt_of_lt_of_le h kt)) (fun e _ h => .tup (ks _ _ _ _ e) h) (fun e _ h => .lst (ks _ _ _ _ e) h) .nil (fun _ _ a b => .cons a b)
theorem VR.mono {V V' : View} (k : VLe V V') {p : PV} {v : Value} (h : VR V p v) : VR V' p v := h.seqs (fun a _ _ _ e => k.mem a _ e) k.tk
theorem VRs.ind {V : View} {P : List PV -> List Value -> Prop} (h0 : P [] []) (h1 : ∀ p v ps vs, VR V p v -> VRs V ps vs -> P ps vs -> P (p :: ps) (v :: vs)) {ps : List PV} {vs : List Value} (h : VRs V ps vs) : P ps vs :=
 h.rec (motive_1 := fun _ _ _ => True) (motive_2 := fun ps vs _ => P ps vs) trivial (fun _ => trivial) (fun _ _ => trivial) (fun _ _ => trivial) (fun _ => trivial) (fun _ _ _ _ => trivial) (fun _ _ _ => trivial) (fun _ _ _ => trivial) h0 (fun a b _ c => h1 _ _ _ _ a b c)
theorem VRs.seqs {V V' : View} (ks : ∀ a cl xs n, V.mem a = some (seqObj cl xs n) -> V'.mem a = some (seqObj cl xs n)) (kt : V.tk <= V'.tk) {ps : List PV} {vs : List Value} (h : VRs V ps vs) : VRs V' ps vs :=
 h.ind (P := VRs V') .nil fun _ _ _ _ a _ b => .cons (a.seqs ks kt) b
theorem VRs.mono {V V' : View} (k : VLe V V') {ps : List PV} {vs : List Value} (h : VRs V ps vs) : VRs V' ps vs := h.seqs (fun a _ _ _ e => k.mem a _ e) k.tk
theorem VRs.length {V : View} {ps : List PV} {vs : List Value} (h : VRs V ps vs) : vs.length = ps.length := h.ind (P := fun ps vs => vs.length = ps.length) rfl fun _ _ _ _ _ _ e => congrArg (· + 1) e
theorem VRs.append {V : View} {ps ps' : List PV} {vs vs' : List Value} (h : VRs V ps vs) (h' : VRs V ps' vs') : VRs V (ps ++ ps') (vs ++ vs') := h.ind (P := fun ps vs => VRs V (ps ++ ps') (vs ++ vs')) h' fun _ _ _ _ a _ b => .cons a b
theorem VRs.get {V : View} {ps : List PV} {vs : List Value} {i : Nat} {p : PV} (h : VRs V ps vs) : ps[i]? = some p -> ∃ v, vs[i]? = some v /\ VR V p v :=
 h.ind (P := fun ps vs => ∀ i, ps[i]? = some p -> ∃ v, vs[i]? = some v /\ VR V p v) (fun _ e => by simp at e) (fun q v ps vs a _ b i => Nat.casesOn i (fun e => Option.some.inj e ▸ ⟨v, rfl, a⟩) b) i
theorem VRs.inv_nil {V : View} {vs : List Value} (h : VRs V [] vs) : vs = [] := by cases h; rfl
theorem VRs.inv_cons {V : View} {p : PV} {ps : List PV} {vs : List Value} (h : VRs V (p :: ps) vs) : ∃ v vs', vs = v :: vs' /\ VR V p v /\ VRs V ps vs' := by cases h; exact ⟨_, _, rfl, by assumption, by assumption⟩
theorem VRs.split {V : View} {ps ps' : List PV} : ∀ {ws : List Value}, VRs V (ps ++ ps') ws -> ∃ vs vs', ws = vs ++ vs' /\ VRs V ps vs /\ VRs V ps' vs' := by
 induction ps with
 | nil => exact fun {ws} h => ⟨[], ws, rfl, .nil, h⟩
 | cons p ps ih =>
  intro ws h
  obtain ⟨v, ws', rfl, a, b⟩ := VRs.inv_cons h
  obtain ⟨vs, vs', rfl, h1, h2⟩ := ih b
  exact ⟨_ :: vs, vs', rfl, .cons a h1, h2⟩
theorem VRs.reverse {V : View} {ps : List PV} {vs : List Value} (h : VRs V ps vs) : VRs V ps.reverse vs.reverse :=
 h.ind (P := fun ps vs => VRs V ps.reverse vs.reverse) .nil fun p v ps vs a _ b => (List.reverse_cons (as := ps) ▸ List.reverse_cons (as := vs) ▸ b.append (.cons a .nil))
theorem VRs.drop {V : View} {ps : List PV} {vs : List Value} (n : Nat) (h : VRs V ps vs) : VRs V (ps.drop n) (vs.drop n) :=
 h.ind (P := fun ps vs => ∀ n, VRs V (ps.drop n) (vs.drop n)) (fun n => n.casesOn .nil fun _ => .nil) (fun _ _ _ _ a h b n => n.casesOn (.cons a h) b) n
theorem VRs.take {V : View} {ps : List PV} {vs : List Value} (n : Nat) (h : VRs V ps vs) : VRs V (ps.take n) (vs.take n) :=
 h.ind (P := fun ps vs => ∀ n, VRs V (ps.take n) (vs.take n)) (fun n => n.casesOn .nil fun _ => .nil) (fun _ _ _ _ a _ b n => n.casesOn .nil fun n => .cons a (b n)) n
set_option genInjectivity true in
inductive Cell where
 | list (l : List PV)
 | dict (l : List (Str × PV))
 | set (S : Str -> Bool) (n : Nat)
 | loc (ns : List Str) (vs : List (Option PV))
 | inst (ns : List Str) (vs : List PV)
 | cell (v : Option PV)
 | obj (o : Obj)
 | that (I : Obj -> Prop)
inductive DRs (P : Params) (V : View) : List (Str × PV) -> List DictEntry -> Prop
 | nil : DRs P V [] []
 | cons {k : Str} {t : Tok} {p : PV} {v : Value} {l : List (Str × PV)} {es : List DictEntry} : VR V p v -> DRs P V l es -> DRs P V ((k, p) :: l) (⟨PyData.keyHash P k, .str k t, v⟩ :: es)
theorem DRs.seqs {P : Params} {V V' : View} (ks : ∀ a cl xs n, V.mem a = some (seqObj cl xs n) -> V'.mem a = some (seqObj cl xs n)) (kt : V.tk <= V'.tk) {l : List (Str × PV)} {es : List DictEntry} (h : DRs P V l es) : DRs P V' l es :=
 h.rec (motive := fun l es _ => DRs P V' l es) .nil fun h _ t => .cons (h.seqs ks kt) t
theorem DRs.mono {P : Params} {V V' : View} (k : VLe V V') {l : List (Str × PV)} {es : List DictEntry} (h : DRs P V l es) : DRs P V' l es := h.seqs (fun a _ _ _ e => k.mem a _ e) k.tk
inductive KVs (V : View) : List (Str × PV) -> List (Str × Value) -> Prop
 | nil : KVs V [] []
 | cons {k : Str} {p : PV} {v : Value} {l : List (Str × PV)} {es : List (Str × Value)} : VR V p v -> KVs V l es -> KVs V ((k, p) :: l) ((k, v) :: es)
theorem KVs.seqs {V V' : View} (ks : ∀ a cl xs n, V.mem a = some (seqObj cl xs n) -> V'.mem a = some (seqObj cl xs n)) (kt : V.tk <= V'.tk) {l : List (Str × PV)} {es : List (Str × Value)} (h : KVs V l es) : KVs V' l es :=
 h.rec (motive := fun l es _ => KVs V' l es) .nil fun h _ t => .cons (h.seqs ks kt) t
theorem KVs.mono {V V' : View} (k : VLe V V') {l : List (Str × PV)} {es : List (Str × Value)} (h : KVs V l es) : KVs V' l es := h.seqs (fun a _ _ _ e => k.mem a _ e) k.tk
noncomputable def CR (pr : Program) (w : World) (V : View) : Cell -> Obj -> Prop
 | .list l, o => ∃ vs n, o = seqObj "list" vs.toArray n /\ VRs V l vs
 | .dict l, o => ∃ kvs, o.IsDictOf (PySem.strKind pr w) kvs /\ KVs V l kvs
 | .set S n, o => o.SetObjOf (PySem.strKind pr w) S n
 | .loc ns vs, o => ∃ es ep, o.data = .dict es ep /\ StrKeys es /\ ∀ (i : Nat) x p, ns[i]? = some x -> vs[i]? = some (some p) -> ∃ v, nsFind es x = some v /\ VR V p v
 | .inst ns vs, o => ns.length = vs.length /\ ∃ es n, o = dictOf es n /\ DRs w.params V (ns.zip vs) es
 | .cell v, o => ∃ v', o = { cls := .type "cell", data := .cell v' } /\ (match v, v' with | some p, some v => VR V p v | none, none => True | _, _ => False)
 | .obj o', o => o = o'
 | .that I, o => I o
theorem CR.seqs {pr : Program} {w : World} {V V' : View} (ks : ∀ a cl xs n, V.mem a = some (seqObj cl xs n) -> V'.mem a = some (seqObj cl xs n)) (kt : V.tk <= V'.tk) {c : Cell} {o : Obj} : CR pr w V c o -> CR pr w V' c o :=
 c.casesOn (fun _ h => h.elim fun vs h => h.elim fun n h => ⟨vs, n, h.1, h.2.seqs ks kt⟩) (fun _ h => h.elim fun kvs h => ⟨kvs, h.1, h.2.seqs ks kt⟩) (fun _ _ h => h)
  (fun _ _ h => h.elim fun es h => h.elim fun ep h => ⟨es, ep, h.1, h.2.1, fun i x p h1 h2 => (h.2.2 i x p h1 h2).elim fun v e => ⟨v, e.1, e.2.seqs ks kt⟩⟩)
  (fun _ _ h => ⟨h.1, h.2.elim fun es h => h.elim fun n h => ⟨es, n, h.1, h.2.seqs ks kt⟩⟩)
  (fun v h => h.elim fun v' h => ⟨v', h.1, by have h := h.2; cases v <;> cases v' <;> first | exact h | exact VR.seqs ks kt h⟩) (fun _ h => h) (fun _ h => h)
theorem CR.mono {pr : Program} {w : World} {V V' : View} (k : VLe V V') {c : Cell} {o : Obj} (h : CR pr w V c o) : CR pr w V' c o := h.seqs (fun a _ _ _ e => k.mem a _ e) k.tk
noncomputable abbrev Store := List (Addr × Cell)
noncomputable abbrev addrs (σ : Store) : List Addr := σ.map Prod.fst
noncomputable def vw (F : List Addr) (σ : Store) (s : Shared) : View := ⟨fun a => if a ∈ F \/ a ∈ addrs σ then none else s.heap.get? a, s.toks⟩
theorem vw_some {F : List Addr} {σ : Store} {s : Shared} {a : Addr} {o : Obj} : (vw F σ s).mem a = some o ↔ a ∉ F /\ a ∉ addrs σ /\ s.heap.get? a = some o := by
 unfold vw
 dsimp only
 by_cases h1 : a ∈ F \/ a ∈ addrs σ
 ·simp only [h1, if_true]
  constructor
  ·intro e; cases e
  ·rintro ⟨e1, e2, _⟩; exact (h1.elim e1 e2).elim
 ·simp only [h1, if_false]
  constructor
  ·intro e; exact ⟨fun q => h1 (.inl q), fun q => h1 (.inr q), e⟩
  ·rintro ⟨_, _, e⟩; exact e
structure Cx where
 prog : Program
 w : World
 β : View
 F : List Addr
 d : Nat
 u : Nat
noncomputable abbrev Cx.P (c : Cx) : Params := c.w.params
noncomputable abbrev Cx.M (c : Cx) : Model := model c.prog c.w
inductive Held (pr : Program) (w : World) (V : View) (h : Heap) (p : Addr × Cell) : Prop
 | mk (o : Obj) (e : h.get? p.1 = some o) (r : CR pr w V p.2 o) : Held pr w V h p
structure Rep (c : Cx) (σ : Store) (s : Shared) : Prop where
 nodup : (addrs σ).Nodup
 disj : ∀ a ∈ addrs σ, a ∉ c.F
 old : ∀ a ∈ c.F, ∃ o, s.heap.get? a = some o
 sys : sysModules ∉ addrs σ
 big : ∃ a o, sysModules < a /\ (vw c.F σ s).mem a = some o
 base : VLe c.β (vw c.F σ s)
 cells : ∀ p ∈ σ, Held c.prog c.w (vw c.F σ s) s.heap p
structure Out (c : Cx) (σ : Store) (s : Shared) (σ' : Store) (s' : Shared) : Prop where
 same : s'.gens = s.gens /\ s'.os = s.os
 rep : Rep c σ' s'
 view : VLe (vw c.F σ s) (vw c.F σ' s')
 kept : ∀ a ∈ c.F, ∀ o, s.heap.get? a = some o -> s'.heap.get? a = some o
theorem Out.refl {c : Cx} {σ : Store} {s : Shared} (R : Rep c σ s) : Out c σ s σ s := ⟨⟨rfl, rfl⟩, R, .refl _, fun _ _ _ e => e⟩
theorem view_toks {F : List Addr} {σ : Store} {s : Shared} {tk : Nat} (h : s.toks <= tk) : VLe (vw F σ s) (vw F σ { s with toks := tk }) := ⟨fun _ _ e => e, h⟩
theorem Out.toks {c : Cx} {σ : Store} {s : Shared} (R : Rep c σ s) (tk : Nat) (h : s.toks <= tk) : Out c σ s σ { s with toks := tk } :=
 ⟨⟨rfl, rfl⟩, ⟨R.nodup, R.disj, R.old, R.sys, R.big, R.base.trans (view_toks h), fun p hp => let ⟨o, e, r⟩ := R.cells p hp; ⟨o, e, r.mono (view_toks h)⟩⟩, view_toks h, fun _ _ _ e => e⟩
theorem Out.trans {c : Cx} {σ σ1 σ₂ : Store} {s s1 s2 : Shared} (a : Out c σ s σ1 s1) (b : Out c σ1 s1 σ₂ s2) : Out c σ s σ₂ s2 := by
 refine ⟨?_, b.rep, a.view.trans b.view, fun x hx o e => b.kept x hx o (a.kept x hx o e)⟩
 exact ⟨b.same.1.trans a.same.1, b.same.2.trans a.same.2⟩
structure AOk (c : Cx) (A : Around) : Prop where
 handled : A.handled = none
 depth : A.depth <= c.d
 units : A.units <= c.u
inductive Ends (c : Cx) (σ : Store) (s : Shared) (P : View -> Store -> Prop) (s' : Shared) : Prop
 | mk (σ' : Store) (o : Out c σ s σ' s') (q : P (vw c.F σ' s') σ') : Ends c σ s P s'
noncomputable def W {α : Type} (c : Cx) (t : Sem α) (V : View) (σ : Store) (Q : α -> View -> Store -> Prop) : Prop :=
 ∀ A s, AOk c A -> Rep c σ s -> VLe V (vw c.F σ s) ->
  wpAny c.M A t (fun a s' => Ends c σ s (Q a) s') (fun _ _ => False) s
theorem W.on {α : Type} {c : Cx} {V : View} {σ : Store} {t : Sem α} {P : α -> View -> Store -> Prop} (h : W c t V σ P) {A : Around} {s : Shared} (hA : AOk c A) (R : Rep c σ s) (hV : VLe V (vw c.F σ s)) {Q : α -> Shared -> Prop} {E : Value -> Shared -> Prop} (k : ∀ v s' σ', Out c σ s σ' s' -> P v (vw c.F σ' s') σ' -> Q v s') : wpAny c.M A t Q E s := wpAny_mono (h A s hA R hV) (fun v s' h => h.casesOn fun σ' o q => k v s' σ' o q) fun _ _ e => e.elim
section
variable {α γ : Type} {c : Cx} {V : View} {σ : Store}
theorem W.mono {t : Sem α} {Q Q' : α -> View -> Store -> Prop} (h : W c t V σ Q) (k : ∀ a V' σ', VLe V V' -> Q a V' σ' -> Q' a V' σ') : W c t V σ Q' := fun A s hA R hV =>
 W.on h hA R hV (fun a s' σ' o q => ⟨σ', o, k a _ _ (hV.trans o.view) q⟩)
theorem W.pure {a : α} {Q : α -> View -> Store -> Prop} (h : ∀ V', VLe V V' -> Q a V' σ) : W c (Pure.pure a) V σ Q := fun A s hA R hV => wq ⟨σ, .refl R, h _ hV⟩
theorem W.bind {t : Sem α} {k : α -> Sem γ} {Q : γ -> View -> Store -> Prop} (h : W c t V σ (fun a V' σ' => VLe V V' -> W c (k a) V' σ' Q)) : W c (t >>= k) V σ Q := fun A s hA R hV =>
 wb (W.on h hA R hV (fun a s' σ' o q =>
  W.on (q (hV.trans o.view)) hA o.rep (.refl _) (fun b s'' σ'' o' q' => ⟨σ'', o.trans o', q'⟩)))
theorem W.of {t : Sem α} {Q : α -> View -> Store -> Prop}
  (h : ∀ A s, AOk c A -> Rep c σ s -> VLe V (vw c.F σ s) -> wpAny c.M A t (fun a s' => Ends c σ s (Q a) s') (fun _ _ => False) s) : W c t V σ Q := h
end
theorem get_lt {h : Heap} {a : Addr} {o : Obj} (e : h.get? a = some o) : a < h.objs.size := Heap.lt_size e
theorem Rep.lt {c : Cx} {σ : Store} {s : Shared} (R : Rep c σ s) {a : Addr} (ha : a ∈ addrs σ) : a < s.heap.objs.size := by
 obtain ⟨p, hp, rfl⟩ := List.mem_map.mp ha
 obtain ⟨o, e, _⟩ := R.cells p hp
 exact get_lt e
theorem Rep.ltF {c : Cx} {σ : Store} {s : Shared} (R : Rep c σ s) {a : Addr} (ha : a ∈ c.F) : a < s.heap.objs.size := let ⟨_, e⟩ := R.old a ha; get_lt e
theorem Rep.sz {c : Cx} {σ : Store} {s : Shared} (R : Rep c σ s) : sysModules < s.heap.objs.size := by
 obtain ⟨a, o, h, e⟩ := R.big
 exact Nat.lt_trans h (get_lt (vw_some.mp e).2.2)
theorem big_mono {V V' : View} (k : VLe V V') (h : ∃ a o, sysModules < a /\ V.mem a = some o) : ∃ a o, sysModules < a /\ V'.mem a = some o := let ⟨a, o, h1, h2⟩ := h; ⟨a, o, h1, k.mem _ _ h2⟩
section
variable {c : Cx} {σ σ' : Store} {s : Shared} {h h' : Heap}
theorem view_more {F : List Addr} {tk : Nat} (hk : ∀ b o, s.heap.get? b = some o -> h'.get? b = some o) (ht : s.toks <= tk) : VLe (vw F σ s) (vw F σ { s with heap := h', toks := tk }) :=
 ⟨fun _ _ e => vw_some.mpr ⟨(vw_some.mp e).1, (vw_some.mp e).2.1, hk _ _ (vw_some.mp e).2.2⟩, ht⟩
theorem Rep.more {tk : Nat} (R : Rep c σ s) (hk : ∀ b o, s.heap.get? b = some o -> h'.get? b = some o) (ht : s.toks <= tk) : Out c σ s σ { s with heap := h', toks := tk } :=
 have kv := view_more (F := c.F) (σ := σ) hk ht
 ⟨⟨rfl, rfl⟩, ⟨R.nodup, R.disj, fun a ha => (R.old a ha).elim fun x e => ⟨x, hk _ _ e⟩, R.sys, big_mono kv R.big, R.base.trans kv, fun p hp => (R.cells p hp).casesOn fun o e r => ⟨o, hk _ _ e, r.mono kv⟩⟩, kv, fun _ _ o e => hk _ o e⟩
theorem Rep.push_frz (R : Rep c σ s) (o : Obj) (hf : autoParam (o.isFreed = false) aRfl) : Out c σ s σ { s with heap := s.heap.push o } /\ (vw c.F σ { s with heap := s.heap.push o }).mem s.heap.objs.size = some o :=
 ⟨R.more (tk := s.toks) (fun _ _ e => Heap.get?_push_of_some _ e) (Nat.le_refl _), vw_some.mpr ⟨fun q => Nat.lt_irrefl _ (R.ltF q), fun q => Nat.lt_irrefl _ (R.lt q), Heap.get?_push_size _ hf⟩⟩
theorem Rep.newC {tk : Nat} {a : Addr} {x : Cell} {o : Obj} (R : Rep c σ s) (hk : ∀ b o, s.heap.get? b = some o -> h'.get? b = some o) (ha : s.heap.objs.size <= a) (ho : h'.get? a = some o)
  (hc : VLe (vw c.F σ s) (vw c.F ((a, x) :: σ) { s with heap := h', toks := tk }) -> CR c.prog c.w (vw c.F ((a, x) :: σ) { s with heap := h', toks := tk }) x o) (ht : s.toks <= tk) : Out c σ s ((a, x) :: σ) { s with heap := h', toks := tk } := by
 have ne : ∀ b, b < s.heap.objs.size -> b ≠ a := fun b hb q => Nat.lt_irrefl _ (Nat.lt_of_lt_of_le (q ▸ hb) ha)
 have kv : VLe (vw c.F σ s) (vw c.F ((a, x) :: σ) { s with heap := h', toks := tk }) :=
  ⟨fun b y e => vw_some.mpr ⟨(vw_some.mp e).1, fun q => (List.mem_cons.mp q).elim (ne b (get_lt (vw_some.mp e).2.2)) (vw_some.mp e).2.1, hk _ _ (vw_some.mp e).2.2⟩, ht⟩
 exact ⟨⟨rfl, rfl⟩, ⟨List.nodup_cons.mpr ⟨fun q => ne a (R.lt q) rfl, R.nodup⟩, List.forall_mem_cons.mpr ⟨fun q => ne a (R.ltF q) rfl, R.disj⟩, fun b hb => (R.old b hb).elim fun x e => ⟨x, hk _ _ e⟩,
  fun q => (List.mem_cons.mp q).elim (ne _ R.sz) R.sys, big_mono kv R.big, R.base.trans kv, List.forall_mem_cons.mpr ⟨⟨o, ho, hc kv⟩, fun p hp => (R.cells p hp).casesOn fun o e r => ⟨o, hk _ _ e, r.mono kv⟩⟩⟩, kv, fun _ _ o e => hk _ o e⟩
theorem Rep.newCell {tk : Nat} {a : Addr} {x : Cell} {o : Obj} (R : Rep c σ s) (hk : ∀ b o, s.heap.get? b = some o -> h'.get? b = some o) (ha : s.heap.objs.size <= a) (ho : h'.get? a = some o) (hc : CR c.prog c.w (vw c.F σ s) x o) (ht : s.toks <= tk) :
  Out c σ s ((a, x) :: σ) { s with heap := h', toks := tk } := R.newC hk ha ho (fun k => hc.mono k) ht
theorem Rep.push_cell (R : Rep c σ s) (o : Obj) (x : Cell) (hc : CR c.prog c.w (vw c.F σ s) x o) (hf : autoParam (o.isFreed = false) aRfl) :
  Out c σ s ((s.heap.objs.size, x) :: σ) { s with heap := s.heap.push o } := R.newCell (tk := s.toks) (fun _ _ e => Heap.get?_push_of_some _ e) (Nat.le_refl _) (Heap.get?_push_size _ hf) hc (Nat.le_refl _)
inductive Up (a : Addr) (x x' : Cell) : Store -> Store -> Prop
 | head {r : Store} : Up a x x' ((a, x) :: r) ((a, x') :: r)
 | tail {p : Addr × Cell} {r r' : Store} : Up a x x' r r' -> Up a x x' (p :: r) (p :: r')
theorem Up.addrs {a : Addr} {x x' : Cell} {σ σ' : Store} (u : Up a x x' σ σ') : addrs σ' = addrs σ :=
 Up.rec (x := x) (x' := x') (motive := fun σ σ' _ => Mine.addrs σ' = Mine.addrs σ) rfl (fun _ e => congrArg (_ :: ·) e) u
theorem Up.mem {a : Addr} {x x' : Cell} {σ σ' : Store} (u : Up a x x' σ σ') : (a, x) ∈ σ :=
 u.rec (motive := fun σ _ _ => (a, x) ∈ σ) (.head _) fun _ e => .tail _ e
theorem Up.mem_cases {a : Addr} {x x' : Cell} {σ σ' : Store} (u : Up a x x' σ σ') (hn : (Mine.addrs σ).Nodup) : ∀ p ∈ σ', p = (a, x') \/ (p ∈ σ /\ p.1 ≠ a) := by
 induction u with
 | head =>
  intro p hp
  rcases List.mem_cons.mp hp with rfl | hp
  ·exact .inl rfl
  ·have m := List.mem_map_of_mem (f := Prod.fst) hp
   exact .inr ⟨.tail _ hp, fun q => (List.nodup_cons.mp hn).1 (q ▸ m)⟩
 | tail u ih =>
  intro p hp
  rcases List.mem_cons.mp hp with rfl | hp
  ·have m := List.mem_map_of_mem (f := Prod.fst) u.mem
   exact .inr ⟨.head _, fun q => (List.nodup_cons.mp hn).1 (q ▸ m)⟩
  ·exact (ih (List.nodup_cons.mp hn).2 p hp).imp id fun h => ⟨.tail _ h.1, h.2⟩
theorem Up.append {a : Addr} {x x' : Cell} (τ : Store) : ∀ {σ σ' : Store}, Up a x x' σ σ' -> Up a x x' (τ ++ σ) (τ ++ σ') := by
 induction τ with
 | nil => intro σ σ' u; exact u
 | cons p τ ih => intro σ σ' u; exact .tail (ih u)
theorem Up.append_right {a : Addr} {x x' : Cell} (τ : Store) {σ σ' : Store} (u : Up a x x' σ σ') : Up a x x' (σ ++ τ) (σ' ++ τ) :=
 u.rec (motive := fun σ σ' _ => Up a x x' (σ ++ τ) (σ' ++ τ)) .head fun _ h => .tail h
theorem view_upd {F : List Addr} {a : Addr} {x x' : Cell} {tk : Nat} (U : Up a x x' σ σ') (hs : Heap.SameBut a s.heap h') (ht : s.toks <= tk) : VLe (vw F σ s) (vw F σ' { s with heap := h', toks := tk }) := ⟨fun b y e => by
 obtain ⟨e1, e2, e3⟩ := vw_some.mp e
 refine vw_some.mpr ⟨e1, by rw [U.addrs]; exact e2, ?_⟩
 show h'.get? b = some y
 rw [hs.2 b fun q => e2 (q ▸ List.mem_map_of_mem U.mem)]
 exact e3, ht⟩
theorem Rep.upd {a : Addr} {x x' : Cell} {o : Obj} (R : Rep c σ s) (U : Up a x x' σ σ') (hs : Heap.SameBut a s.heap h') (ho : h'.get? a = some o) (hc : CR c.prog c.w (vw c.F σ s) x' o) (tk : Nat) (ht : s.toks <= tk) :
  Out c σ s σ' { s with heap := h', toks := tk } := by
 have kv := view_upd (F := c.F) U hs ht
 have na : a ∉ c.F := R.disj a (List.mem_map_of_mem U.mem)
 refine ⟨⟨rfl, rfl⟩, ⟨by rw [U.addrs]; exact R.nodup, by rw [U.addrs]; exact R.disj, ?_, by rw [U.addrs]; exact R.sys, big_mono kv R.big, R.base.trans kv, ?_⟩, kv, ?_⟩
 ·intro b hb
  obtain ⟨y, e⟩ := R.old b hb
  exact ⟨y, (hs.2 b fun q => na (q ▸ hb)).trans e⟩
 ·intro p hp
  rcases U.mem_cases R.nodup p hp with rfl | ⟨hp', hne⟩
  ·exact ⟨o, ho, hc.mono kv⟩
  ·obtain ⟨y, e, r⟩ := R.cells p hp'
   exact ⟨y, (hs.2 p.1 hne).trans e, r.mono kv⟩
 ·intro b hb y e
  show h'.get? b = some y
  rw [hs.2 b fun q => na (q ▸ hb)]
  exact e
theorem view_sub {F : List Addr} (hs : ∀ p ∈ σ', p ∈ σ) : VLe (vw F σ s) (vw F σ' s) := ⟨fun b y e => by
 obtain ⟨e1, e2, e3⟩ := vw_some.mp e
 refine vw_some.mpr ⟨e1, fun q => e2 ?_, e3⟩
 obtain ⟨p, hp, rfl⟩ := List.mem_map.mp q
 exact List.mem_map_of_mem (hs p hp), Nat.le_refl _⟩
theorem Rep.sub (R : Rep c σ s) (hs : ∀ p ∈ σ', p ∈ σ) (hn : (addrs σ').Nodup) : Rep c σ' s where
 nodup := hn
 disj := fun a ha => by
  obtain ⟨p, hp, rfl⟩ := List.mem_map.mp ha
  exact R.disj _ (List.mem_map_of_mem (hs p hp))
 old := R.old
 sys := fun q => by
  obtain ⟨p, hp, e⟩ := List.mem_map.mp q
  exact R.sys (by rw [<- e]; exact List.mem_map_of_mem (hs p hp))
 big := big_mono (view_sub hs) R.big
 base := R.base.trans (view_sub hs)
 cells := fun p hp => let ⟨y, e, r⟩ := R.cells p (hs p hp); ⟨y, e, r.mono (view_sub hs)⟩
theorem Out.sub (R : Rep c σ s) (hs : ∀ p ∈ σ', p ∈ σ) (hn : (addrs σ').Nodup) : Out c σ s σ' s :=
 ⟨⟨rfl, rfl⟩, R.sub hs hn, view_sub hs, fun _ _ _ e => e⟩
theorem view_frame {F : List Addr} {τ : Store} : vw (F ++ addrs τ) σ s = vw F (σ ++ τ) s := by
 unfold vw
 congr 1
 funext a
 have : (a ∈ F ++ addrs τ \/ a ∈ addrs σ) ↔ (a ∈ F \/ a ∈ addrs (σ ++ τ)) := by
  simp only [addrs, List.map_append, List.mem_append]
  constructor
  ·rintro ((h | h) | h)
   ·exact .inl h
   ·exact .inr (.inr h)
   ·exact .inr (.inl h)
  ·rintro (h | h | h)
   ·exact .inl (.inl h)
   ·exact .inr h
   ·exact .inl (.inr h)
 simp only [this]
theorem Rep.frame {τ : Store} {β : View} (R : Rep c (σ ++ τ) s) (hβ : VLe β (vw c.F (σ ++ τ) s)) : Rep { c with F := c.F ++ addrs τ, β := β } σ s where
 nodup := by have := R.nodup; rw [addrs, List.map_append] at this; exact (List.nodup_append.mp this).1
 disj := fun a ha q => by
  have n := R.nodup
  rw [addrs, List.map_append] at n
  rcases List.mem_append.mp q with q | q
  ·exact R.disj a (by rw [addrs, List.map_append]; exact memL _ ha) q
  ·exact (List.nodup_append.mp n).2.2 a ha a q rfl
 old := fun a ha => by
  rcases List.mem_append.mp ha with q | q
  ·exact R.old a q
  ·obtain ⟨p, hp, rfl⟩ := List.mem_map.mp q
   obtain ⟨y, e, _⟩ := R.cells p (memR _ hp)
   exact ⟨y, e⟩
 sys := fun q => R.sys (by rw [addrs, List.map_append]; exact memL _ q)
 big := by show ∃ a o, sysModules < a /\ (vw (c.F ++ addrs τ) σ s).mem a = some o; rw [view_frame]; exact R.big
 base := by show VLe β (vw (c.F ++ addrs τ) σ s); rw [view_frame]; exact hβ
 cells := fun p hp => let ⟨y, e, r⟩ := R.cells p (memL _ hp); ⟨y, e, by show CR c.prog c.w (vw (c.F ++ addrs τ) σ s) p.2 y; rw [view_frame]; exact r⟩
theorem Out.frame {τ : Store} {β : View} {s' : Shared} (R : Rep c (σ ++ τ) s) (o : Out { c with F := c.F ++ addrs τ, β := β } σ s σ' s') : Out c (σ ++ τ) s (σ' ++ τ) s' := by
 have ov : VLe (vw c.F (σ ++ τ) s) (vw c.F (σ' ++ τ) s') := by
  have := o.view
  rw [show (({ c with F := c.F ++ addrs τ, β := β } : Cx).F) = c.F ++ addrs τ from rfl, view_frame, view_frame] at this
  exact this
 have kτ : ∀ p ∈ τ, ∀ y, s.heap.get? p.1 = some y -> s'.heap.get? p.1 = some y := fun p hp y e => o.kept p.1 (memR _ (List.mem_map_of_mem hp)) y e
 refine ⟨o.same, ⟨?_, ?_, ?_, ?_, big_mono ov R.big, R.base.trans ov, ?_⟩, ov, fun a ha y e => o.kept a (memL _ ha) y e⟩
 ·have n := R.nodup
  rw [addrs, List.map_append] at n ⊢
  refine List.nodup_append.mpr ⟨o.rep.nodup, (List.nodup_append.mp n).2.1, fun a ha b hb => ?_⟩
  rintro rfl
  exact o.rep.disj a ha (memR _ hb)
 ·intro a ha q
  rw [addrs, List.map_append] at ha
  rcases List.mem_append.mp ha with ha | ha
  ·exact o.rep.disj a ha (memL _ q)
  ·exact R.disj a (by rw [addrs, List.map_append]; exact memR _ ha) q
 ·intro a ha
  exact o.rep.old a (memL _ ha)
 ·intro q
  rw [addrs, List.map_append] at q
  rcases List.mem_append.mp q with q | q
  ·exact o.rep.sys q
  ·exact R.sys (by rw [addrs, List.map_append]; exact memR _ q)
 ·intro p hp
  rcases List.mem_append.mp hp with hp | hp
  ·obtain ⟨y, e, r⟩ := o.rep.cells p hp
   refine ⟨y, e, ?_⟩
   have r' : CR c.prog c.w (vw (c.F ++ addrs τ) σ' s') p.2 y := r
   rw [view_frame] at r'
   exact r'
  ·obtain ⟨y, e, r⟩ := R.cells p (memR _ hp)
   exact ⟨y, kτ p hp y e, r.mono ov⟩
end
section
variable {α : Type} {c : Cx} {V : View} {σ : Store}
theorem W.frame {t : Sem α} {τ : Store} {β : View} {Q : α -> View -> Store -> Prop} (hβ : VLe β V) (h : W { c with F := c.F ++ addrs τ, β := β } t V σ Q) :
  W c t V (σ ++ τ) (fun a V' σ'' => ∃ σ', σ'' = σ' ++ τ /\ Q a V' σ') := fun A s hA R hV => by
 refine wm (h A s ⟨hA.handled, hA.depth, hA.units⟩ (R.frame (hβ.trans hV)) ?_) (fun a s' ⟨σ', o, q⟩ => ⟨σ' ++ τ, o.frame R, σ', rfl, ?_⟩)
 ·show VLe V (vw (c.F ++ addrs τ) σ s); rw [view_frame]; exact hV
 ·have q' : Q a (vw (c.F ++ addrs τ) σ' s') σ' := q
  rw [view_frame] at q'
  exact q'
theorem W.sub {t : Sem α} {σ' : Store} {Q : α -> View -> Store -> Prop} (hs : ∀ p ∈ σ', p ∈ σ) (hn : (addrs σ).Nodup -> (addrs σ').Nodup) (h : W c t V σ' Q) : W c t V σ Q := fun A s hA R hV =>
 have o := Out.sub R hs (hn R.nodup)
 W.on h hA o.rep (hV.trans o.view) (fun a s' σ'' o' q => ⟨σ'', o.trans o', q⟩)
theorem W.drop {t : Sem α} {σ' : Store} {Q : α -> View -> Store -> Prop} (hs : σ'.Sublist σ) (h : W c t V σ' Q) : W c t V σ Q := h.sub (fun p hp => hs.subset hp) fun n => n.sublist (hs.map Prod.fst)
theorem W.perm {t : Sem α} {σ' : Store} {Q : α -> View -> Store -> Prop} (hs : σ'.Perm σ) (h : W c t V σ' Q) : W c t V σ Q := h.sub (fun p hp => hs.mem_iff.mp hp) fun n => (hs.map Prod.fst).nodup_iff.mpr n
inductive GivesC (c : Cx) (σ : Store) (s : Shared) (Q : Value -> View -> Store -> Prop) (r : Result) (s' : Shared) : Prop
 | mk (v : Value) (σ' : Store) (e : r = .ok (.ret v)) (o : Out c σ s σ' s') (q : Q v (vw c.F σ' s') σ') : GivesC c σ s Q r s'
noncomputable def C (c : Cx) (k : Code) (V : View) (σ : Store) (Q : Value -> View -> Store -> Prop) : Prop :=
 ∀ A s, AOk c A -> Rep c σ s -> VLe V (vw c.F σ s) ->
  codeAny c.M A k (GivesC c σ s Q) s
theorem W.call {f : Value} {pos : List Value} {kw : List (Str × Value)} {Q : Value -> View -> Store -> Prop} (h : C c (.call f ⟨pos, kw⟩) V σ Q) : W c (PySem.call f pos kw) V σ Q := fun A s hA R hV =>
 wpAny_call (codeAny_mono (h A s hA R hV) fun r s' ⟨v, σ', e, o, q⟩ => by subst e; exact ⟨σ', o, q⟩)
end
section
variable {V : View}
theorem VR.inv_none {v : Value} (h : VR V .none v) : v = .none := by cases h; rfl
theorem VR.inv_bool {b : Bool} {v : Value} (h : VR V (.bool b) v) : v = .bool b := by cases h; rfl
theorem VR.inv_int {i : Int} {v : Value} (h : VR V (.int i) v) : ∃ t, v = .int i t := by cases h; exact ⟨_, rfl⟩
theorem VR.inv_str {x : Str} {v : Value} (h : VR V (.str x) v) : ∃ t, v = .str x t := by cases h; exact ⟨_, rfl⟩
theorem VR.inv_raw {u v : Value} (h : VR V (.raw u) v) : v = u := by cases h; rfl
theorem VR.inv_tup {l : List PV} {v : Value} (h : VR V (.tup l) v) : ∃ a vs n, v = .ref a /\ V.mem a = some (seqObj "tuple" vs.toArray n) /\ VRs V l vs := by cases h; exact ⟨_, _, _, rfl, by assumption, by assumption⟩
theorem VR.inv_lst {l : List PV} {v : Value} (h : VR V (.lst l) v) : ∃ a vs n, v = .ref a /\ V.mem a = some (seqObj "list" vs.toArray n) /\ VRs V l vs := by cases h; exact ⟨_, _, _, rfl, by assumption, by assumption⟩
end
inductive ret (Q : PV -> Store -> Prop) (v : Value) (V : View) (σ : Store) : Prop
 | mk (p : PV) (h : VR V p v) (q : Q p σ) : ret Q v V σ
inductive rets (Q : List PV -> Store -> Prop) (vs : List Value) (V : View) (σ : Store) : Prop
 | mk (ps : List PV) (h : VRs V ps vs) (q : Q ps σ) : rets Q vs V σ
theorem W.onr {c : Cx} {V : View} {σ : Store} {t : Sem Value} {P : PV -> Store -> Prop} (h : W c t V σ (ret P)) {A : Around} {s : Shared} (hA : AOk c A) (R : Rep c σ s) (hV : VLe V (vw c.F σ s)) {Q : Value -> Shared -> Prop} {E : Value -> Shared -> Prop} (k : ∀ v s' σ', Out c σ s σ' s' -> ∀ p, VR (vw c.F σ' s') p v -> P p σ' -> Q v s') : wpAny c.M A t Q E s := W.on h hA R hV fun v s' σ' o h => h.casesOn fun p r q => k v s' σ' o p r q
theorem W.ons {c : Cx} {V : View} {σ : Store} {t : Sem (List Value)} {P : List PV -> Store -> Prop} (h : W c t V σ (rets P)) {A : Around} {s : Shared} (hA : AOk c A) (R : Rep c σ s) (hV : VLe V (vw c.F σ s)) {Q : List Value -> Shared -> Prop} {E : Value -> Shared -> Prop} (k : ∀ v s' σ', Out c σ s σ' s' -> ∀ p, VRs (vw c.F σ' s') p v -> P p σ' -> Q v s') : wpAny c.M A t Q E s := W.on h hA R hV fun v s' σ' o h => h.casesOn fun p r q => k v s' σ' o p r q
noncomputable abbrev flow (N : Store -> Prop) (R : PV -> Store -> Prop) : Flow -> View -> Store -> Prop := fun f V σ => match f with
 | .next => N σ
 | .ret v => ret R v V σ
 | _ => False
noncomputable def E (c : Cx) (env : Env) (e : PySem.Expr) (σ : Store) (Q : PV -> Store -> Prop) : Prop := ∀ V, W c (eval e env) V σ (ret Q)
noncomputable def T (c : Cx) (env : Env) (e : PySem.Expr) (σ : Store) (Q : Bool -> Store -> Prop) : Prop := ∀ V, W c (isTrue e env (eval e env)) V σ (fun b _ σ' => Q b σ')
noncomputable def Es (c : Cx) (env : Env) (es : List PySem.Expr) (pos : Pos) (σ : Store) (Q : List PV -> Store -> Prop) : Prop := ∀ V, W c (spliced (backTo pos (starEach es env))) V σ (rets Q)
noncomputable def X (c : Cx) (env : Env) (st : Stmt) (σ : Store) (N : Store -> Prop) (R : PV -> Store -> Prop) : Prop := ∀ V, W c (exec st env) V σ (flow N R)
noncomputable def Xs (c : Cx) (env : Env) (st : List Stmt) (σ : Store) (N : Store -> Prop) (R : PV -> Store -> Prop) : Prop := ∀ V, W c (execs st env) V σ (flow N R)
noncomputable def Bin (c : Cx) (op : Operator) (a b : PV) (σ : Store) (Q : PV -> Store -> Prop) : Prop := ∀ V va vb, VR V a va -> VR V b vb -> W c (binaryOp op va vb) V σ (ret Q)
noncomputable def Cmp (c : Cx) (op : CmpOp) (a b : PV) (σ : Store) (Q : PV -> Store -> Prop) : Prop := ∀ V va vb, VR V a va -> VR V b vb -> W c (compareOp op va vb) V σ (ret Q)
noncomputable def Tr (c : Cx) (a : PV) (σ : Store) (Q : Bool -> Store -> Prop) : Prop := ∀ V va, VR V a va -> W c (truthy va) V σ (fun b _ σ' => Q b σ')
noncomputable def Sub (c : Cx) (a b : PV) (σ : Store) (Q : PV -> Store -> Prop) : Prop := ∀ V va vb, VR V a va -> VR V b vb -> W c (getItem va vb) V σ (ret Q)
noncomputable def Ca (c : Cx) (f : Value) (ps : List PV) (σ : Store) (Q : PV -> Store -> Prop) : Prop := ∀ V vs, VRs V ps vs -> W c (PySem.call f vs) V σ (ret Q)
section
variable {c : Cx} {env : Env} {σ : Store} {Q : PV -> Store -> Prop} {N : Store -> Prop} {R : PV -> Store -> Prop}
theorem E.mono {e : PySem.Expr} {Q' : PV -> Store -> Prop} (h : E c env e σ Q) (k : ∀ p σ', Q p σ' -> Q' p σ') : E c env e σ Q' := fun V => (h V).mono fun _ _ _ _ ⟨p, r, q⟩ => ⟨p, r, k p _ q⟩
theorem Xs.mono {st : List Stmt} {N' : Store -> Prop} {R' : PV -> Store -> Prop} (h : Xs c env st σ N R) (k : ∀ σ', N σ' -> N' σ') (k' : ∀ p σ', R p σ' -> R' p σ') : Xs c env st σ N' R' := fun V => (h V).mono fun f _ _ _ q => by
 cases f with
 | next => exact k _ q
 | ret v => exact let ⟨p, r, q⟩ := q; ⟨p, r, k' _ _ q⟩
 | _ => exact q
theorem Xs.drop {e : List Stmt} {σ' : Store} (hs : σ'.Sublist σ) (h : Xs c env e σ' N R) : Xs c env e σ N R := fun V => (h V).drop hs
theorem Xs.perm {e : List Stmt} {σ' : Store} (hs : σ'.Perm σ) (h : Xs c env e σ' N R) : Xs c env e σ N R := fun V => (h V).perm hs
theorem ret_toks {s : Shared} {v : Value} {p : PV} {tk : Nat} (R : Rep c σ s) (ht : s.toks <= tk) (hv : VR (vw c.F σ { s with toks := tk }) p v) (h : Q p σ) :
  Ends c σ s (ret Q v) { s with toks := tk } := ⟨σ, .toks R _ ht, p, hv, h⟩
theorem ret_here {s : Shared} {v : Value} {p : PV} (R : Rep c σ s) (hv : VR (vw c.F σ s) p v) (h : Q p σ) :
  Ends c σ s (ret Q v) s := ⟨σ, .refl R, p, hv, h⟩
theorem E.str {x : Str} {k : Nat} {pos : Pos} (h : Q (.str x) σ) : E c env (.Constant (.str x) k pos) σ Q := fun V A s hA R hV => wpAny_Constant_str (ret_toks R (Nat.le_succ _) (.str _ _) h)
theorem E.int {i : Int} {k : Nat} {pos : Pos} (h : Q (.int i) σ) : E c env (.Constant (.int i) k pos) σ Q := fun V A s hA R hV => wpAny_Constant_int (ret_toks R (Nat.le_succ _) (.int _ _) h)
theorem E.none {k : Nat} {pos : Pos} (h : Q .none σ) : E c env (.Constant .none k pos) σ Q := fun V A s hA R hV => wpAny_Constant_none (ret_here R .none h)
theorem E.bool {b : Bool} {k : Nat} {pos : Pos} (h : Q (.bool b) σ) : E c env (.Constant (.bool b) k pos) σ Q := fun V A s hA R hV => wpAny_Constant_bool (ret_here R (.bool b) h)
structure Lo (env : Env) (ns : List Str) : Prop where
 kind : env.scope.kind = .function
 loc : ∀ x ∈ ns, env.kindOf x = some .local
 nodup : ns.Nodup
 plain : ∀ x ∈ ns, (x == ("__debug__" : Str)) = false
theorem Rep.loc {L : Addr} {ns : List Str} {vs : List (Option PV)} {s : Shared} (R : Rep c σ s) (hm : (L, Cell.loc ns vs) ∈ σ) :
  ∃ m, s.heap.Ns L m /\ ∀ (i : Nat) x p, ns[i]? = some x -> vs[i]? = some (some p) -> ∃ v, m x = some v /\ VR (vw c.F σ s) p v := by
 obtain ⟨o, e, es, ep, hd, hk, hr⟩ := R.cells _ hm
 exact ⟨nsFind es, ⟨o, es, ep, e, hd, hk, fun _ => rfl⟩, hr⟩
theorem E.loc {ns : List Str} {vs : List (Option PV)} {x : Str} {pos : Pos} {p : PV} (i : Nat) (hL : Lo env ns) (hm : (env.locals, Cell.loc ns vs) ∈ σ) (hx : ns[i]? = some x) (hv : vs[i]? = some (some p)) (h : Q p σ) :
  E c env (.Name x pos) σ Q := fun V A s hA R hV => by
 obtain ⟨m, hn, hr⟩ := R.loc hm
 obtain ⟨v, e, r⟩ := hr i x p hx hv
 have hmem : x ∈ ns := List.mem_of_getElem? hx
 exact wpAny_Name (wpAny_loadName_local hL.kind (hL.loc x hmem) hn e (ret_here R r h)) (hL.plain x hmem)
noncomputable abbrev Kb2 (c : Cx) (op : Operator) (Q : PV -> Store -> Prop) (a : PV) : PV -> Store -> Prop := fun b σ => Bin c op a b σ Q
noncomputable abbrev Kb (c : Cx) (env : Env) (r : PySem.Expr) (op : Operator) (Q : PV -> Store -> Prop) : PV -> Store -> Prop := fun a σ => E c env r σ (Kb2 c op Q a)
noncomputable abbrev Kc2 (c : Cx) (op : CmpOp) (Q : PV -> Store -> Prop) (a : PV) : PV -> Store -> Prop := fun b σ => Cmp c op a b σ Q
noncomputable abbrev Kc (c : Cx) (env : Env) (r : PySem.Expr) (op : CmpOp) (Q : PV -> Store -> Prop) : PV -> Store -> Prop := fun a σ => E c env r σ (Kc2 c op Q a)
noncomputable abbrev Kt (c : Cx) (Q : Bool -> Store -> Prop) : PV -> Store -> Prop := fun p σ => Tr c p σ Q
noncomputable abbrev Kxs (c : Cx) (env : Env) (l : List Stmt) (N : Store -> Prop) (R : PV -> Store -> Prop) : Store -> Prop := fun σ => Xs c env l σ N R
noncomputable abbrev Kn (N : Store -> Prop) : PV -> Store -> Prop := fun _ σ => N σ
theorem E.binop {l r : PySem.Expr} {op : Operator} {pos : Pos} (h : E c env l σ (Kb c env r op Q)) : E c env (.BinOp l op r pos) σ Q := fun V A s hA R hV =>
 wpAny_BinOp (W.onr (h V) hA R hV (fun va s1 σ1 o1 a ra q1 =>
  W.onr (q1 _) hA o1.rep (.refl _) (fun vb s2 σ₂ o2 b rb q2 =>
   W.on (q2 _ va vb (ra.mono o2.view) rb) hA o2.rep (.refl _) (fun v s3 σ3 o3 q3 => ⟨σ3, (o1.trans o2).trans o3, q3⟩))))
theorem E.cmp {l r : PySem.Expr} {op : CmpOp} {pos : Pos} (h : E c env l σ (Kc c env r op Q)) (hm : autoParam (behindInMarks op r = false) aWur) : E c env (.Compare l [op] [r] pos) σ Q := fun V A s hA R hV =>
 wpAny_Compare1 (W.onr (h V) hA R hV (fun va s1 σ1 o1 a ra q1 =>
  W.onr (q1 _) hA o1.rep (.refl _) (fun vb s2 σ₂ o2 b rb q2 =>
   W.on (q2 _ va vb (ra.mono o2.view) rb) hA o2.rep (.refl _) (fun v s3 σ3 o3 q3 => ⟨σ3, (o1.trans o2).trans o3, q3⟩)))) hm
theorem T.cmp {l r : PySem.Expr} {op : CmpOp} {pos : Pos} {Q : Bool -> Store -> Prop} (h : E c env l σ (Kc c env r op (Kt c Q))) (hm : autoParam (behindInMarks op r = false) aWur) :
  T c env (.Compare l [op] [r] pos) σ Q := fun V A s hA R hV =>
 wpAny_isTrue_Compare1 (W.onr (h V) hA R hV (fun va s1 σ1 o1 a ra q1 =>
  W.onr (q1 _) hA o1.rep (.refl _) (fun vb s2 σ₂ o2 b rb q2 =>
   W.onr (q2 _ va vb (ra.mono o2.view) rb) hA o2.rep (.refl _) (fun v s3 σ3 o3 p rp q3 =>
    W.on (q3 _ v rp) hA o3.rep (.refl _) (fun t s4 σ4 o4 q4 => ⟨σ4, ((o1.trans o2).trans o3).trans o4, q4⟩))))) hm
theorem T.not {x : PySem.Expr} {pos : Pos} {Q : Bool -> Store -> Prop} (h : T c env x σ (fun b σ1 => Q (!b) σ1)) : T c env (.UnaryOp .Not x pos) σ Q := fun V A s hA R hV => wpAny_isTrue_Not (h V A s hA R hV)
theorem T.val {x : PySem.Expr} {Q : Bool -> Store -> Prop} (h : E c env x σ (Kt c Q))
  (hs : autoParam (isTrue x env (eval x env) = (do let v <- eval x env; standAt x.pos; holding [v] (truthy v))) aRfl) : T c env x σ Q := fun V A s hA R hV =>
 wpAny_isTrue_value (W.onr (h V) hA R hV (fun va s1 σ1 o1 a ra q1 =>
  W.on (q1 _ va ra) hA o1.rep (.refl _) (fun vb s2 σ₂ o2 q2 => ⟨σ₂, o1.trans o2, q2⟩))) hs
theorem T.and {xs : List PySem.Expr} {pos : Pos} {Q : Bool -> Store -> Prop} (h : ∀ V, W c (allTrue .And xs env) V σ (fun b _ σ' => Q b σ')) : T c env (.BoolOp .And xs pos) σ Q := fun V A s hA R hV =>
 wpAny_isTrue_BoolOp (h V A s hA R hV)
theorem T.or {xs : List PySem.Expr} {pos : Pos} {Q : Bool -> Store -> Prop} (h : ∀ V, W c (allTrue .Or xs env) V σ (fun b _ σ' => Q b σ')) : T c env (.BoolOp .Or xs pos) σ Q := fun V A s hA R hV =>
 wpAny_isTrue_BoolOp (h V A s hA R hV)
theorem and_cons {x : PySem.Expr} {xs : List PySem.Expr} {Q : Bool -> Store -> Prop} (h : T c env x σ (fun b σ1 => if b = true then (∀ V, W c (allTrue .And xs env) V σ1 (fun b _ σ' => Q b σ')) else Q false σ1)) (V : View) :
  W c (allTrue .And (x :: xs) env) V σ (fun b _ σ' => Q b σ') := fun A s hA R hV =>
 wpAny_allTrue_And_cons (W.on (h V) hA R hV (fun b s1 σ1 o1 q1 => by
  cases b with
  | true => exact W.on (q1 _) hA o1.rep (.refl _) (fun b s2 σ₂ o2 q2 => ⟨σ₂, o1.trans o2, q2⟩)
  | false => exact ⟨σ1, o1, q1⟩))
theorem and_nil {Q : Bool -> Store -> Prop} (h : Q true σ) (V : View) : W c (allTrue .And [] env) V σ (fun b _ σ' => Q b σ') := fun A s hA R hV => wpAny_allTrue_And_nil ⟨σ, .refl R, h⟩
theorem or_cons {x : PySem.Expr} {xs : List PySem.Expr} {Q : Bool -> Store -> Prop} (h : T c env x σ (fun b σ1 => if b = true then Q true σ1 else (∀ V, W c (allTrue .Or xs env) V σ1 (fun b _ σ' => Q b σ')))) (V : View) :
  W c (allTrue .Or (x :: xs) env) V σ (fun b _ σ' => Q b σ') := fun A s hA R hV =>
 wpAny_allTrue_Or_cons (W.on (h V) hA R hV (fun b s1 σ1 o1 q1 => by
  cases b with
  | false => exact W.on (q1 _) hA o1.rep (.refl _) (fun b s2 σ₂ o2 q2 => ⟨σ₂, o1.trans o2, q2⟩)
  | true => exact ⟨σ1, o1, q1⟩))
theorem or_nil {Q : Bool -> Store -> Prop} (h : Q false σ) (V : View) : W c (allTrue .Or [] env) V σ (fun b _ σ' => Q b σ') := fun A s hA R hV => wpAny_allTrue_Or_nil ⟨σ, .refl R, h⟩
theorem E.ifexp {t x y : PySem.Expr} {pos : Pos} (h : T c env t σ (fun b σ1 => if b = true then E c env x σ1 Q else E c env y σ1 Q)) : E c env (.IfExp t x y pos) σ Q := fun V A s hA R hV =>
 wpAny_IfExp (W.on (h V) hA R hV (fun b s1 σ1 o1 q1 => by
  cases b with
  | true => exact W.on (q1 _) hA o1.rep (.refl _) (fun b s2 σ₂ o2 q2 => ⟨σ₂, o1.trans o2, q2⟩)
  | false => exact W.on (q1 _) hA o1.rep (.refl _) (fun b s2 σ₂ o2 q2 => ⟨σ₂, o1.trans o2, q2⟩)))
theorem Xs.nil (h : N σ) : Xs c env [] σ N R := fun V A s hA Rp hV => wpAny_execs_nil ⟨σ, .refl Rp, h⟩
theorem Xs.cons {st : Stmt} {rest : List Stmt} (h : X c env st σ (Kxs c env rest N R) R) : Xs c env (st :: rest) σ N R := fun V A s hA Rp hV =>
 wpAny_execs_cons (W.on (h V) hA Rp hV (fun f s1 σ1 o1 q1 => by
  cases f with
  | next => exact W.on (q1 _) hA o1.rep (.refl _) (fun b s2 σ₂ o2 q2 => ⟨σ₂, o1.trans o2, q2⟩)
  | ret v => exact ⟨σ1, o1, q1⟩
  | brk => exact q1.elim
  | cont => exact q1.elim))
theorem X.iff {t : PySem.Expr} {body orelse : List Stmt} {pos : Pos} (h : T c env t σ (fun b σ1 => if b = true then Xs c env body σ1 N R else Xs c env orelse σ1 N R)) : X c env (.If t body orelse pos) σ N R := fun V A s hA Rp hV =>
 wpAny_If (W.on (h V) hA Rp hV (fun b s1 σ1 o1 q1 => by
  cases b with
  | true => exact W.on (q1 _) hA o1.rep (.refl _) (fun b s2 σ₂ o2 q2 => ⟨σ₂, o1.trans o2, q2⟩)
  | false => exact W.on (q1 _) hA o1.rep (.refl _) (fun b s2 σ₂ o2 q2 => ⟨σ₂, o1.trans o2, q2⟩)))
theorem X.return {e : PySem.Expr} {pos : Pos} (h : E c env e σ R) : X c env (.Return (some e) pos) σ N R := fun V A s hA Rp hV => wpAny_Return_some (W.on (h V) hA Rp hV (fun v s1 σ1 o1 q1 => ⟨σ1, o1, q1⟩))
theorem X.expr {e : PySem.Expr} {pos : Pos} (h : E c env e σ (Kn N)) (hi : autoParam (interactive env = false) aRfl) (hs : autoParam (swapsWith e none pos.line env = pure false) aRfl) : X c env (.Expr e pos) σ N R := fun V A s hA Rp hV =>
 wpAny_Expr_any (W.on (h V) hA Rp hV (fun v s1 σ1 o1 ⟨_, _, q1⟩ => ⟨σ1, o1, q1⟩)) hi hs
theorem W.store {ns : List Str} {vs : List (Option PV)} {x : Str} {p : PV} {v : Value} {V : View} {σ' : Store} {Q : Unit -> View -> Store -> Prop} (i : Nat) (hL : Lo env ns) (hx : ns[i]? = some x) (hv : VR V p v)
  (U : Up env.locals (.loc ns vs) (.loc ns (vs.set i (some p))) σ σ') (h : ∀ V', VLe V V' -> Q () V' σ') : W c (storeName env x v) V σ Q := fun A s hA Rp hV => by
 obtain ⟨o, e, es, ep, hd, hk, hr⟩ := Rp.cells _ U.mem
 have hmem : x ∈ ns := List.mem_of_getElem? hx
 refine wpAny_storeName_local (hL.loc x hmem) ⟨o, es, ep, e, hd, hk, fun _ => rfl⟩ (fun h' hn hs => ?_) (by rw [hL.kind]; rfl)
 obtain ⟨o', es', ep', e', hd', hk', hf'⟩ := hn
 have out := Rp.upd U hs e' (tk := s.toks + 1) (ht := Nat.le_succ _) ⟨es', ep', hd', hk', fun j y q hj hq => by
  rw [hf' y]
  dsimp only
  by_cases hij : j = i
  ·subst hij
   have : y = x := Option.some.inj (hj.symm.trans hx)
   subst this
   rw [if_pos rfl]
   have hlt : j < vs.length := by
    have := List.getElem?_eq_some_iff.mp hq
    simpa using this.1
   rw [List.getElem?_set_self hlt] at hq
   have : p = q := by simpa using hq
   subst this
   exact ⟨v, rfl, hv.mono hV⟩
  ·have hne : y ≠ x := fun q' => by
    subst q'
    have hj' := List.getElem?_eq_some_iff.mp hj
    have hx' := List.getElem?_eq_some_iff.mp hx
    exact hij ((List.getElem_inj hL.nodup).mp (hj'.2.trans hx'.2.symm))
   rw [if_neg hne]
   rw [List.getElem?_set_ne (fun q' => hij q'.symm)] at hq
   exact hr j y q hj hq⟩
 exact ⟨σ', out, h _ (hV.trans out.view)⟩
end
noncomputable abbrev KK (P : Params) : Frag := hd.heap_1 P
noncomputable def Le (V : View) (h : Heap) : Prop := ∀ a o, V.mem a = some o -> h.get? a = some o
structure Base (c : Cx) : Prop where
 K : ∀ a o, (KK c.P).lookup a = some o -> c.β.mem a = some o
 top : ∃ p loose mg mb, ∀ h : Heap, Le c.β h -> TopRead p loose mg mb h
 tk : 0 < c.β.tk
 bm : ∃ (mg : Str -> Option Value) (bm : Addr) (ob : Obj), (∀ h : Heap, Le c.β h -> h.Ns mainGlobals mg) /\ mg "__builtins__" = some (.ref bm) /\ bm ≠ builtinsNs /\ c.β.mem bm = some ob /\ ob.cls = .type "module" /\ ob.dict = some builtinsNs /\ ob.data = .plain
theorem Base.In {c : Cx} (B : Base c) {h : Heap} (k : Le c.β h) : (KK c.P).In h := fun a o e => k a o (B.K a o e)
theorem Rep.le {c : Cx} {σ : Store} {s : Shared} (R : Rep c σ s) : Le c.β s.heap := fun a o e => (vw_some.mp (R.base.mem a o e)).2.2
theorem Base.lim {c : Cx} (B : Base c) {h : Heap} (k : Le c.β h) : h.NoLimit := let ⟨_, _, _, _, t⟩ := B.top; (t h k).nolimit
theorem Base.toks {c : Cx} (B : Base c) {σ : Store} {s : Shared} (R : Rep c σ s) : 0 < s.toks := Nat.lt_of_lt_of_le B.tk R.base.tk
noncomputable def P0 : Params := { strHash := fun _ => 0, shareClass := fun _ => 0, mergeTok := id, idOf := fun _ => 0, idOfShared := fun _ _ => 0, followText := fun _ => false, idOfImm := fun _ => 0 }
noncomputable abbrev FnAt (P : Params) (a : Addr) (fd : FuncData) : Prop := (KK P).lookup a = some { cls := .type "function", data := .func fd }
noncomputable def getFd {a : Addr} {fd : FuncData} (_ : FnAt P0 a fd) : FuncData := fd
theorem lookup_zip_rev {ps : List Str} {vals : List Value} : ∀ {i : Nat} {x : Str}, ps.Nodup -> ps.length = vals.length -> ps[i]? = some x -> (ps.zip vals).reverse.lookup x = vals[i]? := by
 induction ps generalizing vals with
 | nil => intro i x _ _ e; simp at e
 | cons p ps ih =>
  intro i x hn hl e
  cases vals with
  | nil => simp at hl
  | cons v vals =>
   have hl' : ps.length = vals.length := by simpa using hl
   simp only [List.zip_cons_cons, List.reverse_cons, List.lookup_append]
   cases i with
   | zero =>
    have hx : p = x := by simpa using e
    subst hx
    have : (ps.zip vals).reverse.lookup p = none := by
     rw [List.lookup_eq_none_iff]
     intro q hq
     have hm := (List.of_mem_zip (List.mem_reverse.mp hq)).1
     have : q.1 ≠ p := fun q' => (List.nodup_cons.mp hn).1 (q' ▸ hm)
     simpa using fun q' => this q'.symm
    rw [this]
    simp
   | succ i =>
    have e' : ps[i]? = some x := by simpa using e
    have hi := (List.getElem?_eq_some_iff.mp e')
    have := ih (List.nodup_cons.mp hn).2 hl' e'
    rw [this]
    have hlt : i < vals.length := by rw [<- hl']; exact hi.1
    simp [List.getElem?_eq_getElem hlt]
theorem init_loc {V : View} {ps os : List Str} {vals : List Value} {pvs : List PV} {k : Nat} (hn : (ps ++ os).Nodup) (hv : VRs V pvs vals) (hl : ps.length = pvs.length) :
  ∀ (i : Nat) x p, (ps ++ os)[i]? = some x -> (pvs.map some ++ List.replicate k none)[i]? = some (some p) -> ∃ v, (ps.zip vals).reverse.lookup x = some v /\ VR V p v := by
 intro i x p hx hp
 by_cases hi : i < pvs.length
 ·rw [List.getElem?_append_left (by rw [hl]; exact hi)] at hx
  rw [List.getElem?_append_left (by simpa using hi)] at hp
  have hp' : pvs[i]? = some p := by
   rw [List.getElem?_map] at hp
   cases q : pvs[i]? with
   | none => rw [q] at hp; cases hp
   | some y => rw [q] at hp; simpa using hp
  obtain ⟨v, e, r⟩ := hv.get hp'
  exact ⟨v, by rw [lookup_zip_rev (List.nodup_append.mp hn).1 (by rw [hl, hv.length]) hx]; exact e, r⟩
 ·rw [List.getElem?_append_right (by simpa using Nat.le_of_not_lt hi)] at hp
  exfalso
  have := List.mem_of_getElem? hp
  rw [List.mem_replicate] at this
  cases this.2
theorem Lo.of {fd : FuncData} {L a : Addr} {ns : List Str} (hk : fd.scope.kind = .function) (h : (ns.all fun x => fd.scope.names.lookup x == some .local && !(x == ("__debug__" : Str))) = true) (hn : ns.Nodup) : Lo (callEnv fd L a) ns where
 kind := hk
 loc := fun x hx => by
  have := List.all_eq_true.mp h x hx
  rw [Bool.and_eq_true] at this
  exact beq_iff_eq.mp this.1
 nodup := hn
 plain := fun x hx => by
  have := List.all_eq_true.mp h x hx
  rw [Bool.and_eq_true] at this
  simpa using this.2
inductive fin (Q : PV -> Store -> Prop) (p : PV) (σ' : Store) : Prop
 | mk (σ'' : Store) (h : σ''.Sublist σ') (q : Q p σ'') : fin Q p σ'
structure FnOk (fd : FuncData) (ps os : List Str) (body : List Stmt) : Prop where
 body : fd.body = .stmts body
 kind : fd.scope.kind = .function
 co : fd.scope.isCoroutine = false
 gen : fd.scope.isGenerator = false
 names : ((ps ++ os).all fun x => fd.scope.names.lookup x == some .local && !(x == ("__debug__" : Str))) = true
 nodup : (ps ++ os).Nodup
 cells : (fd.scope.names.all fun x => decide (x.2 ≠ .cell)) = true
theorem Rep.up {c : Cx} {σ : Store} {s : Shared} {d u : Nat} (R : Rep c σ s) : Rep { c with d := d, u := u } σ s := ⟨R.nodup, R.disj, R.old, R.sys, R.big, R.base, R.cells⟩
theorem Out.down {c : Cx} {σ σ' : Store} {s s' : Shared} {d u : Nat} (o : Out { c with d := d, u := u } σ s σ' s') : Out c σ s σ' s' := ⟨o.same, ⟨o.rep.nodup, o.rep.disj, o.rep.old, o.rep.sys, o.rep.big, o.rep.base, o.rep.cells⟩, o.view, o.kept⟩
theorem fl_gives {c : Cx} {σ σ1 : Store} {s s1 s' : Shared} {d u : Nat} {Q : PV -> Store -> Prop} {fl : Flow} {r : Value} (out : Out c σ s σ1 s1) (h : Ends { c with d := d, u := u } σ1 s1 (flow (fun σ' => fin Q .none σ') (fin Q) fl) s')
  (h0 : fl = .next -> r = .none) (h1 : ∀ v, fl = .ret v -> r = v) : GivesC c σ s (ret Q) (.ok (.ret r)) s' := by
 obtain ⟨σ', o', q⟩ := h
 have o1 := o'.down
 have fini : ∀ p, VR (vw c.F σ' s') p r -> fin Q p σ' -> GivesC c σ s (ret Q) (.ok (.ret r)) s' := fun p v h => h.casesOn fun σ'' hs q =>
  have od := Out.sub o1.rep (fun p hp => hs.subset hp) (o1.rep.nodup.sublist (hs.map Prod.fst))
  ⟨r, σ'', rfl, (out.trans o1).trans od, p, v.mono od.view, q⟩
 cases fl with
 | next => exact fini .none (h0 rfl ▸ .none) q
 | ret v => cases h1 v rfl; exact q.casesOn fun p v q => fini p v q
 | brk => exact q.elim
 | cont => exact q.elim
theorem C.fnP {c : Cx} (hX : ∀ h : Heap, Le c.β h -> (KK c.P).In h) (hLim : ∀ h : Heap, Le c.β h -> h.NoLimit) {f : Addr} {fd : FuncData} {body : List Stmt} {ps os : List Str} {args : Args} {pvs : List PV} {vals : List Value} {σ : Store} {Q : PV -> Store -> Prop}
  (ho : FnAt c.P f fd) (ok : FnOk fd ps os body) (hcd : codeIn (KK c.P) fd.code fd.qualname = true) (hd : c.d < recursionLimit)
  {A : Around} {s : Shared} (hbind : BindsTo s fd args (ps.zip vals)) (hvs : VRs (vw c.F σ s) pvs vals) (hlen : ps.length = pvs.length)
  (h : ∀ L, Lo (callEnv fd L f) (ps ++ os) ->
   Xs { c with d := c.d + 1, u := c.u + 3 } (callEnv fd L f) body ((L, .loc (ps ++ os) (pvs.map some ++ List.replicate os.length none)) :: σ) (fun σ' => fin Q .none σ') (fin Q)) :
  AOk c A -> Rep c σ s -> codeAny c.M A (.call (.ref f) args) (GivesC c σ s (ret Q)) s := fun hA R => by
 have hk := R.le
 have X := hX _ hk
 have hpl : ps.length = vals.length := by rw [hlen, hvs.length]
 refine codeAny_call_def (fd := fd) (body := body) (binds := ps.zip vals) (Nat.lt_of_le_of_lt hA.depth hd) (X _ _ ho) rfl (hLim _ hk) (codeRec_of X hcd) ok.body hbind ?_ ?_ (fun h0 hns hkeep => ?_) ok.co ok.gen ok.kind
 ·intro x hx
  have := List.all_eq_true.mp ok.cells x hx
  exact of_decide_eq_true this
 ·intro x hx
  have hm : x.1 ∈ ps := (List.of_mem_zip (a := x.1) (b := x.2) hx).1
  have := List.all_eq_true.mp ok.names x.1 (memL _ hm)
  rw [Bool.and_eq_true] at this
  exact beq_iff_eq.mp this.1
 obtain ⟨oL, es, ep, hL, hLd, hLk, hLf⟩ := hns
 have out := R.newC (h' := h0) (tk := s.toks + (ps.zip vals).length) (a := s.heap.objs.size) (x := .loc (ps ++ os) (pvs.map some ++ List.replicate os.length none)) hkeep (Nat.le_refl _) hL
  (fun kv => ⟨es, ep, hLd, hLk, fun i x p hx hp => (init_loc ok.nodup (hvs.mono kv) hlen i x p hx hp).elim fun v h => ⟨v, (hLf x).trans h.1, h.2⟩⟩) (Nat.le_add_right _ _)
 have go := h s.heap.objs.size (Lo.of ok.kind ok.names ok.nodup) _ (A.deeper (callEnv fd s.heap.objs.size f)) { s with heap := h0, toks := s.toks + (ps.zip vals).length }
  ⟨hA.handled, Nat.succ_le_succ hA.depth, Nat.add_le_add_right hA.units 3⟩ out.rep.up (.refl _)
 exact wpAny_mono go (fun fl s' hq => fl_gives out hq (fun e => by subst e; rfl) fun v e => by subst e; rfl) fun _ _ x => x.elim
theorem C.fn0 {c : Cx} (B : Base c) {f : Addr} {fd : FuncData} {body : List Stmt} {ps os : List Str} {args : Args} {pvs : List PV} {vals : List Value} {σ : Store} {Q : PV -> Store -> Prop}
  (ho : FnAt c.P f fd) (ok : FnOk fd ps os body) (hcd : codeIn (KK c.P) fd.code fd.qualname = true) (hd : c.d < recursionLimit)
  {A : Around} {s : Shared} (hbind : BindsTo s fd args (ps.zip vals)) (hvs : VRs (vw c.F σ s) pvs vals) (hlen : ps.length = pvs.length)
  (h : ∀ L, Lo (callEnv fd L f) (ps ++ os) ->
   Xs { c with d := c.d + 1, u := c.u + 3 } (callEnv fd L f) body ((L, .loc (ps ++ os) (pvs.map some ++ List.replicate os.length none)) :: σ) (fun σ' => fin Q .none σ') (fin Q)) :
  AOk c A -> Rep c σ s -> codeAny c.M A (.call (.ref f) args) (GivesC c σ s (ret Q)) s := C.fnP (fun _ => B.In) (fun _ => B.lim) ho ok hcd hd hbind hvs hlen h
section
variable {c : Cx} {env : Env} {σ : Store} {Q : PV -> Store -> Prop}
theorem Es.nil {pos : Pos} {Q : List PV -> Store -> Prop} (h : Q [] σ) : Es c env [] pos σ Q := fun V A s hA R hV => by
 show wpAny _ _ (spliced (backTo pos (starEach [] env))) _ _ _
 exact Calls.spliced_nil ⟨σ, .refl R, [], .nil, h⟩
noncomputable abbrev Ke2 (Q : List PV -> Store -> Prop) (p : PV) : List PV -> Store -> Prop := fun ps σ => Q (p :: ps) σ
noncomputable abbrev Ke (c : Cx) (env : Env) (rest : List PySem.Expr) (pos : Pos) (Q : List PV -> Store -> Prop) : PV -> Store -> Prop := fun p σ => Es c env rest pos σ (Ke2 Q p)
theorem Es.cons {e : PySem.Expr} {rest : List PySem.Expr} {pos : Pos} {Q : List PV -> Store -> Prop} (h : E c env e σ (Ke c env rest pos Q))
  (he : autoParam (starEach (e :: rest) env = (false, eval e env) :: starEach rest env) aRfl) : Es c env (e :: rest) pos σ Q := fun V A s hA R hV => by
 have eb : backTo pos (starEach (e :: rest) env) = (false, eval e env) :: backTo pos (starEach rest env) := by rw [he]; rfl
 show wpAny _ _ (spliced (backTo pos (starEach (e :: rest) env))) _ _ _
 rw [eb]
 refine Calls.spliced_cons (W.onr (h V) hA R hV (fun v s1 σ1 o1 p rp q1 => ?_))
 exact W.ons (q1 _) hA o1.rep (.refl _) (fun vs s2 σ₂ o2 ps rps q2 => ⟨σ₂, o1.trans o2, p :: ps, .cons (rp.mono o2.view) rps, q2⟩)
noncomputable def KeeperIs (c : Cx) (f : Value) (σ : Store) : Prop := ∀ s : Shared, Rep c σ s -> ∃ kp, ∀ (M : Model) (A : Around) (E : Value -> Shared -> Prop) (Q : Keeper -> Shared -> Prop), Q kp s -> wpAny M A (keeperOf f) Q E s
theorem callWith_gen {M : Model} {A : Around} {E : Value -> Shared -> Prop} {s : Shared} {pos : Pos} {f : Value} {first : List Value} {args : List (Bool × Sem Value)} {kws : List (Option Str × Sem Value)} {Q : Value -> Shared -> Prop}
  (h : wpAny M A (evalArgs f true args kws) (fun a s1 => (∃ kp, ∀ (Q' : Keeper -> Shared -> Prop), Q' kp s1 -> wpAny M A (keeperOf f) Q' E s1) /\ wpAny M A (call f (first ++ a.pos) a.kw) Q E s1) E s) :
  wpAny M A (callWith pos f first args kws) Q E s := by
 unfold callWith
 refine wb (wpAny_holding (wm h (fun a s1 ⟨⟨kp, hk⟩, hc⟩ => wb (wpAny_standAt ?_))))
 have tail : ∀ {t : Sem Value}, wpAny M A t Q E s1 -> wpAny M A (t >>= fun r => holding [r] point >>= fun _ => pure r) Q E s1 :=
  fun ht => wb (wpAny_mono ht (fun r s2 hr => wb (wpAny_holding (wpAny_point (wq hr)))) fun _ _ x => x)
 have marked : ∀ mk, wpAny M A (callMarked mk f (first ++ a.pos) a.kw) Q E s1 := fun mk => by unfold callMarked; exact Calls.wpAny_keep hc
 have oper : ∀ vs, wpAny M A (operate vs (call f (first ++ a.pos) a.kw)) Q E s1 := fun vs => fun Γ p hΓ => by
  rw [Sem.wp_operate]; exact hc Γ p hΓ
 refine wb (hk _ ?_)
 cases hs : (args.any (·.1) || kws.any (·.1.isNone)) <;> cases kp <;> dsimp only <;>
  first
  | exact tail (marked _)
  | exact tail hc
  | exact tail (oper _)
  | (split <;> first | exact tail (marked _) | exact tail hc | exact tail (oper _))
theorem evalArgs_at {M : Model} {A : Around} {E : Value -> Shared -> Prop} {s : Shared} {env : Env} {f : Value} {args : List PySem.Expr} {pos : Pos} {Q : Args -> Shared -> Prop}
  (hst : (backTo pos (starEach args env)).any (·.1) = false) (h : wpAny M A (spliced (backTo pos (starEach args env))) (fun vs s' => Q { pos := vs } s') E s) : wpAny M A (evalArgs f true (backTo pos (starEach args env)) []) Q E s := by
 cases hb : backTo pos (starEach args env) with
 | nil =>
  rw [hb] at h
  unfold evalArgs
  show wpAny M A (spliced [] >>= _) Q E s
  refine wb (wpAny_mono h (fun vs s1 h1 => ?_) fun _ _ x => x)
  refine wb (wq (wpAny_holding ?_))
  simp only [List.all_nil, if_true]
  refine wb (wpAny_evalAll_nil ?_)
  exact wb (wq (wq h1))
 | cons x r =>
  obtain ⟨b, t⟩ := x
  rw [hb] at h hst
  cases b with
  | true => simp at hst
  | false => exact Calls.evalArgs_plain h
end
section
variable {P : Params} {V : View}
theorem DRs.noRef {l : List (Str × PV)} {es : List DictEntry} (h : DRs P V l es) : es.any (·.refKey) = false :=
 h.rec (motive := fun _ es _ => es.any (·.refKey) = false) rfl fun _ _ e => by rw [List.any_cons, e]; rfl
theorem key_hit {k : Str} {tk : Tok} : (Value.str k tk).isStr k = true := by simp [Value.isStr]
theorem key_miss {k x : Str} {tk : Tok} (h : k ≠ x) : (Value.str k tk).isStr x = false := by show (k == x) = false; simpa using h
theorem key_ne {k x : Str} {p : PV} {q : PV} {l : List (Str × PV)} {i : Nat} (hn : (((k, q) :: l).map Prod.fst).Nodup) (e : l[i]? = some (x, p)) : k ≠ x :=
 fun h => (List.nodup_cons.mp hn).1 (List.mem_map.mpr ⟨_, List.mem_of_getElem? e, h.symm⟩)
theorem DRs.find {l : List (Str × PV)} {es : List DictEntry} {i : Nat} {x : Str} {p : PV} (h : DRs P V l es) (hn : (l.map Prod.fst).Nodup) (e : l[i]? = some (x, p)) : ∃ e, es.find? (·.key.isStr x) = some e /\ VR V p e.val := by
 induction h generalizing i with
 | nil => cases i <;> cases e
 | cons h t ih =>
  cases i with
  | zero => cases e; exact ⟨_, by rw [List.find?_cons, key_hit], h⟩
  | succ i =>
   obtain ⟨y, hy, r⟩ := ih (List.nodup_cons.mp hn).2 e
   exact ⟨y, by rw [List.find?_cons, key_miss (key_ne hn e)]; exact hy, r⟩
theorem DRs.miss {l : List (Str × PV)} {es : List DictEntry} {x : Str} (h : DRs P V l es) (hn : x ∉ l.map Prod.fst) : es.find? (·.key.isStr x) = none := by
 induction h with
 | nil => rfl
 | cons h t ih =>
  rw [List.find?_cons, key_miss fun q => hn (List.mem_cons.mpr (.inl q.symm))]
  exact ih fun q => hn (List.mem_cons_of_mem _ q)
theorem DRs.set {l : List (Str × PV)} {es : List DictEntry} {i : Nat} {x : Str} {p q : PV} {v : Value} {hsh : Int} {key : Value} (h : DRs P V l es) (hn : (l.map Prod.fst).Nodup) (e : l[i]? = some (x, p)) (hv : VR V q v) : DRs P V (l.set i (x, q)) (putL x hsh key v es) := by
 induction h generalizing i with
 | nil => cases i <;> cases e
 | cons h t ih =>
  cases i with
  | zero => cases e; rw [putL, if_pos key_hit]; exact .cons hv t
  | succ i => rw [putL, key_miss (key_ne hn e)]; exact .cons h (ih (List.nodup_cons.mp hn).2 e)
theorem DRs.new {l : List (Str × PV)} {es : List DictEntry} {x : Str} {q : PV} {v : Value} {tk : Tok} (h : DRs P V l es) (hn : x ∉ l.map Prod.fst) (hv : VR V q v) : DRs P V (l ++ [(x, q)]) (putL x (PyData.keyHash P x) (.str x tk) v es) := by
 induction h with
 | nil => exact .cons hv .nil
 | cons h t ih => rw [putL, key_miss fun q => hn (List.mem_cons.mpr (.inl q.symm))]; exact .cons h (ih fun q => hn (List.mem_cons_of_mem _ q))
theorem DRs.length {l : List (Str × PV)} {es : List DictEntry} (h : DRs P V l es) : es.length = l.length :=
 h.rec (motive := fun l es _ => es.length = l.length) rfl fun _ _ e => congrArg (· + 1) e
theorem zip_get {ns : List Str} {vs : List PV} {i : Nat} {x : Str} {p : PV} (hx : ns[i]? = some x) (hp : vs[i]? = some p) : (ns.zip vs)[i]? = some (x, p) := by
 rw [List.getElem?_zip_eq_some]; exact ⟨hx, hp⟩
theorem zip_fst {ns : List Str} {vs : List PV} (hl : ns.length = vs.length) : (ns.zip vs).map Prod.fst = ns := List.map_fst_zip (Nat.le_of_eq hl)
theorem zip_set {ns : List Str} {vs : List PV} {i : Nat} {x : Str} {q : PV} (hx : ns[i]? = some x) : (ns.zip vs).set i (x, q) = ns.zip (vs.set i q) := by
 induction ns generalizing vs i with
 | nil => simp at hx
 | cons n ns ih =>
  cases vs with
  | nil => simp
  | cons v vs =>
   cases i with
   | zero => cases hx; rfl
   | succ i => simp only [List.zip_cons_cons, List.set_cons_succ]; rw [ih (by simpa using hx)]
end
noncomputable abbrev TC : Addr := 143
section
variable (P : Params)
theorem K_ga : findIn (KK P) (.ref TC) "__getattribute__" = some (some (.builtin "object.__getattribute__")) := by kernel_rfl
theorem K_g : findIn (KK P) (.ref TC) "__getattr__" = some none := by kernel_rfl
theorem K_sa : findIn (KK P) (.ref TC) "__setattr__" = some (some (.builtin "object.__setattr__")) := by kernel_rfl
theorem K_plain : plainOver (KK P) TC = true := by kernel_rfl
theorem K_hd : hasDictIn (KK P) TC = true := by kernel_rfl
end
noncomputable def ownName (P : Params) (name : Str) : Bool := match findIn (KK P) (.ref TC) name with
 | some none => true
 | some (some a) => (specialIn (KK P) a "__get__").isSome && takesIn (KK P) a == some false
 | none => false
set_option tactic.hygienic true in
theorem findObj_inst {P : Params} {name : Str} {od : Obj} {v : Value} (h : ownName P name = true) (hl : lookIn name od = some (some v)) : findObj (KK P) TC (some od) name = some (.value v) := by
 obtain ⟨cd, hc, hd⟩ := any_some (K_hd P)
 unfold findObj
 have ho : PySem.W.ownOf cd (some od) name = some (some v) := by unfold PySem.W.ownOf; rw [if_pos hd]; exact hl
 unfold ownName at h
 split at h
 ·rename_i e
  rw [hc, Option.bind_some, e, Option.bind_some]
  simp [ho]
 ·rename_i a e
  rw [Bool.and_eq_true] at h
  obtain ⟨g, hg⟩ := Option.isSome_iff_exists.mp h.1
  have ht := beq_iff_eq.mp h.2
  rw [hc, Option.bind_some, e, Option.bind_some]
  simp only [hg, Option.bind_some]
  cases g with
  | none => simp [ho]
  | some g => simp [ht, ho]
 ·cases h
noncomputable def At (c : Cx) (a : PV) (name : Str) (σ : Store) (Q : PV -> Store -> Prop) : Prop := ∀ V va, VR V a va -> W c (getAttr va name true) V σ (ret Q)
noncomputable abbrev Ka (c : Cx) (name : Str) (Q : PV -> Store -> Prop) : PV -> Store -> Prop := fun p σ => At c p name σ Q
theorem E.attr {c : Cx} {env : Env} {σ : Store} {Q : PV -> Store -> Prop} {o : PySem.Expr} {name : Str} {pos : Pos} (h : E c env o σ (Ka c name Q))
  (he : autoParam (eval (.Attribute o name pos) env = (do let ov <- eval o env; standAt pos.atName; let r <- holding [ov] (getAttr ov name true); letTemporaryGo o ov r; pure r)) aRfl)
  (hg : autoParam (∀ ov r, letTemporaryGo o ov r = pure ()) aIir) : E c env (.Attribute o name pos) σ Q := fun V A s hA R hV => by
 rw [he]
 refine wb (W.onr (h V) hA R hV (fun va s1 σ1 o1 a ra q1 => wb (wpAny_standAt (wb (wpAny_holding ?_)))))
 refine W.on (q1 _ va ra) hA o1.rep (.refl _) (fun v s2 σ₂ o2 q2 => ?_)
 rw [hg]
 exact wb (wq (wq ⟨σ₂, o1.trans o2, q2⟩))
structure Self (c : Cx) (x dx : Addr) : Prop where
 at_ : c.β.mem x = some (instObj TC dx)
theorem Rep.inst {c : Cx} {σ : Store} {s : Shared} {dx : Addr} {ns : List Str} {vs : List PV} (R : Rep c σ s) (hm : (dx, Cell.inst ns vs) ∈ σ) :
  ns.length = vs.length /\ ∃ es n, s.heap.get? dx = some (dictOf es n) /\ DRs c.P (vw c.F σ s) (ns.zip vs) es := by
 obtain ⟨o, e, hl, es, n, rfl, hr⟩ := R.cells _ hm
 exact ⟨hl, es, n, e, hr⟩
theorem Rep.instAt {c : Cx} {σ : Store} {s : Shared} {x dx : Addr} {o : Obj} (R : Rep c σ s) (S : Self c x dx) (hd : s.heap.get? dx = some o) : PySem.W.InstAt s.heap x (instObj TC dx) TC (some o) :=
 ⟨R.le _ _ S.at_, rfl, rfl, hd⟩
section
variable {c : Cx} {env : Env} {σ : Store} {Q : PV -> Store -> Prop} {x dx : Addr} {ns : List Str} {vs : List PV}
noncomputable def PV.nb (p : PV) : Bool := p.rec (motive_1 := fun _ => Bool) (motive_2 := fun _ => Unit) true (fun _ => true) (fun _ => true) (fun _ => true) (fun _ _ => true) (fun _ _ => true) handedIn (fun _ _ => true) () (fun _ _ _ _ => ())
theorem VR.handed {V : View} {p : PV} {v : Value} (h : VR V p v) (hp : p.nb = true) : handedIn v = true := by
 cases h with
 | raw v => exact hp
 | _ => rfl
theorem W.getInst (B : Base c) (S : Self c x dx) {name : Str} {p : PV} {V : View} {ex : Bool} {Q : Value -> View -> Store -> Prop} (i : Nat) (hm : (dx, Cell.inst ns vs) ∈ σ) (hn : ns.Nodup) (hx : ns[i]? = some name) (hp : vs[i]? = some p) (ok : ownName c.P name = true) (hb : p.nb = true)
  (h : ∀ V' v, VLe V V' -> VR V' p v -> Q v V' σ) : W c (getAttr (.ref x) name ex) V σ Q := fun A s hA R hV => by
 obtain ⟨hl, es, n, hd, hr⟩ := R.inst hm
 obtain ⟨e, he, rv⟩ := hr.find (by rw [zip_fst hl]; exact hn) (zip_get hx hp)
 have hlook : lookIn name (dictOf es n) = some (some e.val) := by rw [lookIn_dict]; unfold getL; rw [he]
 exact get_value (B.In R.le) (R.instAt S hd) (K_ga _) (findObj_inst ok hlook) (rv.handed hb) ⟨σ, .toks R _ (Nat.le_succ _), h _ _ (hV.trans (view_toks (Nat.le_succ _))) (rv.mono (view_toks (Nat.le_succ _)))⟩
theorem At.inst (B : Base c) (S : Self c x dx) {name : Str} {p : PV} (i : Nat) (hm : (dx, Cell.inst ns vs) ∈ σ) (hn : ns.Nodup) (hx : ns[i]? = some name) (hp : vs[i]? = some p) (ok : ownName c.P name = true) (hb : p.nb = true)
  (h : Q p σ) : At c (.raw (.ref x)) name σ Q := fun V va hv => by
 have := hv.inv_raw
 subst this
 exact W.getInst B S i hm hn hx hp ok hb fun V' v _ r => ⟨p, r, h⟩
theorem W.setInst (B : Base c) (S : Self c x dx) {name : Str} {p q : PV} {v : Value} {V : View} {σ' : Store} {Q : Unit -> View -> Store -> Prop} (i : Nat) (hv : VR V q v) (U : Up dx (.inst ns vs) (.inst ns (vs.set i q)) σ σ') (hn : ns.Nodup) (hx : ns[i]? = some name) (hp : vs[i]? = some p)
  (ht : takerIn (KK c.P) TC name = some none) (hz : ns.length <= 100) (h : ∀ V', VLe V V' -> Q () V' σ') : W c (setAttr (.ref x) name v) V σ Q := fun A s hA R hV => by
 obtain ⟨hl, es, n, hd, hr⟩ := R.inst U.mem
 have hf := hr.find (by rw [zip_fst hl]; exact hn) (zip_get hx hp)
 obtain ⟨e, he, rv⟩ := hf
 have I := R.instAt S hd
 refine set_plain (B.In R.le) I (K_sa _) (osa_open (B.In R.le) I (K_plain _) ht fun b => ?_)
 obtain ⟨cd, hc, hd'⟩ := any_some (K_hd c.P)
 refine wb (wq (wb (wb (wpAny_loadPart (o := instObj TC dx) I.at_ (wb (Looks.here (s := { s with toks := s.toks + 1 }) (looks_clsIn (B.In R.le) hc) ?_))))))
 rw [hd']
 refine wq (a := some dx) (wb (wq (wb ?_)))
 unfold nsSet
 refine wb (wb (wpAny_askSetting (wq (wb (wpAny_mkText (wb (wpAny_loadPart hd ?_)))))))
 dsimp only
 have c1 : (!(es.toArray).any (·.key.isStr name) && (es.toArray).any (·.refKey)) = false := by
  rw [<- Array.any_toList, <- Array.any_toList]
  show (!es.any _ && es.any _) = false
  rw [hr.noRef, Bool.and_false]
 rw [aRefKeyMayBeTheName_at, c1]
 refine wpAny_updatePart hd ?_
 have hs := Heap.SameBut.update s.heap dx (Obj.putName name (PyData.keyHash c.w.params name) (.str name (s.toks + 1)) v)
 have hput := putName_dict name (PyData.keyHash c.w.params name) (.str name (s.toks + 1)) v es n
 have ho : (s.heap.update dx (Obj.putName name (PyData.keyHash c.w.params name) (.str name (s.toks + 1)) v)).get? dx = some (dictOf (putL name (PyData.keyHash c.w.params name) (.str name (s.toks + 1)) v es) (putN name es n)) := by
  rw [<- hput]
  exact Heap.get?_update_self _ hd (by rw [hput]; rfl)
 have hset := hr.set (hsh := PyData.keyHash c.w.params name) (key := .str name (s.toks + 1)) (by rw [zip_fst hl]; exact hn) (zip_get hx hp) (hv.mono hV)
 rw [zip_set hx] at hset
 have out := R.upd U hs ho (tk := s.toks + 1 + 1) (ht := by lia) ⟨by rw [List.length_set]; exact hl, _, _, rfl, hset⟩
 refine wb (wpAny_lookBehind ho (pastItsLine_dict ?_) ?_)
 ·rw [List.size_toArray, hset.length, sizeLine_eq, List.length_zip, List.length_set]
  lia
 exact wq ⟨σ', out, h _ (hV.trans out.view)⟩
end
section
variable {c : Cx} {env : Env} {σ : Store} {Q : PV -> Store -> Prop}
theorem KeeperIs.builtin {id : String} : KeeperIs c (.builtin id) σ := fun s R => ⟨.machine, fun M A E Q q => wq q⟩
theorem KeeperIs.type {t : String} : KeeperIs c (.type t) σ := fun s R => ⟨.machine, fun M A E Q q => wq q⟩
theorem KeeperIs.fn (B : Base c) {f : Addr} {fd : FuncData} (h : FnAt c.P f fd) : KeeperIs c (.ref f) σ := fun s R => ⟨.frame, fun M A E Q q => by
 unfold keeperOf
 exact wb (wpAny_load (B.In R.le _ _ h) (wq q))⟩
noncomputable abbrev bmObj (id : String) (self : Value) : Obj := { cls := .type "builtin_function_or_method", data := .fields #[.builtin id, self] }
theorem keeper_bm {M : Model} {A : Around} {E : Value -> Shared -> Prop} {s : Shared} {b : Addr} {id : String} {self : Value} {Q : Keeper -> Shared -> Prop} (h : s.heap.get? b = some (bmObj id self)) (q : Q .machine s) : wpAny M A (keeperOf (.ref b)) Q E s := by
 unfold keeperOf
 refine wb (wpAny_load h ?_)
 dsimp only
 rw [if_pos (by decide)]
 exact wq q
theorem KeeperIs.bm {b : Addr} {id : String} {self : Value} (h : c.β.mem b = some (bmObj id self)) : KeeperIs c (.ref b) σ := fun s R => ⟨.machine, fun M A E Q q => keeper_bm (R.le _ _ h) q⟩
theorem KeeperIs.meth (B : Base c) {b f : Addr} {fd : FuncData} {self : Value} (h : (b, Cell.obj (methodObj (.ref f) self)) ∈ σ) (hf : FnAt c.P f fd) : KeeperIs c (.ref b) σ := fun s R => ⟨.boundFrame, fun M A E Q q => by
 obtain ⟨o, e, rfl⟩ := R.cells _ h
 unfold keeperOf
 refine wb (wpAny_load e ?_)
 refine wb (wpAny_load (B.In R.le _ _ hf) ?_)
 exact wq q⟩
inductive Kf (c : Cx) (Q : PV -> Store -> Prop) (f : Value) (fs ps : List PV) (σ : Store) : Prop
 | mk (k : KeeperIs c f σ) (h : Ca c f (fs ++ ps) σ Q) : Kf c Q f fs ps σ
inductive Kg (c : Cx) (Q : PV -> Store -> Prop) (f : Value) (ps : List PV) (σ : Store) : Prop
 | mk (k : KeeperIs c f σ) (h : Ca c f ps σ Q) : Kg c Q f ps σ
inductive Kl (c : Cx) (env : Env) (args : List PySem.Expr) (pos : Pos) (Q : PV -> Store -> Prop) (pf : PV) (σ : Store) : Prop
 | mk (f : Value) (e : pf = .raw f) (h : Es c env args pos σ (Kg c Q f)) : Kl c env args pos Q pf σ
theorem call_tail {f : Value} {first : List Value} {firstP : List PV} {args : List PySem.Expr} {pos : Pos} {V : View} (hf : VRs V firstP first)
  (h : Es c env args pos σ (Kf c Q f firstP)) (hst : (backTo pos (starEach args env)).any (·.1) = false) :
  W c (callWith pos f first (backTo pos (starEach args env)) []) V σ (ret Q) := fun A s hA R hV =>
 callWith_gen (evalArgs_at hst (W.ons (h V) hA R hV (fun vs s1 σ1 o1 ps rps hq1 => by
  obtain ⟨hk, q1⟩ := hq1
  obtain ⟨kp, hk⟩ := hk s1 o1.rep
  refine ⟨⟨kp, fun Q' q => hk _ _ _ _ q⟩, ?_⟩
  exact W.on (q1 _ (first ++ vs) ((hf.mono (hV.trans o1.view)).append rps)) hA o1.rep (.refl _) (fun v s2 σ₂ o2 q2 => ⟨σ₂, o1.trans o2, q2⟩))))
theorem E.call {x : Str} {p pos : Pos} {args : List PySem.Expr} (h : E c env (.Name x p) σ (Kl c env args pos Q))
  (hst : autoParam ((backTo pos (starEach args env)).any (·.1) = false) aRfl) : E c env (.Call (.Name x p) args [] pos) σ Q := fun V A s hA R hV =>
 wpAny_Call_NameR (W.onr (h V) hA R hV (fun v s1 σ1 o1 pf rf hq2 => by
  obtain ⟨f, e, q1⟩ := hq2
  subst e
  have := rf.inv_raw
  subst this
  refine W.on (call_tail (c := c) (firstP := []) (V := vw c.F σ1 s1) .nil (fun V => (q1 V).mono fun _ _ _ _ ⟨ps, r, k, h⟩ => ⟨ps, r, k, h⟩) hst) hA o1.rep (.refl _) (fun v s2 σ₂ o2 q2 => ⟨σ₂, o1.trans o2, q2⟩)))
noncomputable def Gm (c : Cx) (a : PV) (name : Str) (pl : Sem Bool) (σ : Store) (K : Value -> List PV -> Store -> Prop) : Prop :=
 ∀ V va, VR V a va -> W c (getMethod va name pl) V σ (fun fx V' σ' => ∃ ps, VRs V' ps fx.2 /\ K fx.1 ps σ')
noncomputable abbrev Km2 (c : Cx) (env : Env) (args : List PySem.Expr) (pos : Pos) (Q : PV -> Store -> Prop) : Value -> List PV -> Store -> Prop := fun f fs σ => Es c env args pos σ (Kf c Q f fs)
noncomputable abbrev Km (c : Cx) (env : Env) (name : Str) (pl : Sem Bool) (args : List PySem.Expr) (pos : Pos) (Q : PV -> Store -> Prop) : PV -> Store -> Prop := fun po σ => Gm c po name pl σ (Km2 c env args pos Q)
theorem E.meth {o : PySem.Expr} {name : Str} {apos pos : Pos} {args : List PySem.Expr} {pl : Sem Bool}
  (h : E c env o σ (Km c env name pl args pos Q))
  (he : autoParam (eval (.Call (.Attribute o name apos) args [] pos) env = (do
   let ov <- eval o env
   standAt apos.atName
   let (f, first) <- holding [ov] (getMethod ov name pl)
   callWith pos f first (backTo pos (starEach args env)) [])) aRfl)
  (hst : autoParam ((backTo pos (starEach args env)).any (·.1) = false) aRfl) : E c env (.Call (.Attribute o name apos) args [] pos) σ Q := fun V A s hA R hV =>
 MethodCall_ (W.onr (h V) hA R hV (fun va s1 σ1 o1 a ra q1 => by
  refine W.on (q1 _ va ra) hA o1.rep (.refl _) (fun fx s2 σ₂ o2 hq4 => ?_)
  obtain ⟨fs, rfs, q2⟩ := hq4
  refine W.on (call_tail (V := vw c.F σ₂ s2) rfs q2 hst) hA o2.rep (.refl _) (fun v s3 σ3 o3 q3 => ⟨σ3, (o1.trans o2).trans o3, q3⟩))) he
noncomputable def HasT (c : Cx) (p : PV) (σ : Store) (T : String) : Prop := ∀ s v, Rep c σ s -> VR (vw c.F σ s) p v -> s.TypeIs v T /\ ∀ a, v = .ref a -> ∃ ob, s.heap.get? a = some ob /\ ob.dict = none
theorem HasT.str {x : Str} : HasT c (.str x) σ "str" := fun s v R hv => by
 obtain ⟨t, rfl⟩ := hv.inv_str
 exact ⟨typeIs_str _ _ _, fun a e => by cases e⟩
theorem HasT.list {a : Addr} {l : List PV} (h : (a, Cell.list l) ∈ σ) : HasT c (.raw (.ref a)) σ "list" := fun s v R hv => by
 have := hv.inv_raw
 subst this
 obtain ⟨o, e, vs, n, rfl, _⟩ := R.cells _ h
 exact ⟨⟨_, e, rfl⟩, fun b q => by cases q; exact ⟨_, e, rfl⟩⟩
theorem HasT.dict {a : Addr} {l : List (Str × PV)} (h : (a, Cell.dict l) ∈ σ) : HasT c (.raw (.ref a)) σ "dict" := fun s v R hv => by
 have := hv.inv_raw
 subst this
 obtain ⟨o, e, kvs, hd, _⟩ := R.cells _ h
 have hm : s.heap.DictOf (PySem.strKind c.prog c.w) a kvs := Heap.dictOf_iff.mpr ⟨o, e, hd⟩
 exact ⟨hm.mapOf.typeIs, hm.mapOf.noDict⟩
theorem Gm.builtin {a : PV} {T id : String} {name : Str} {pl : Sem Bool} {K : Value -> List PV -> Store -> Prop} (hT : HasT c a σ T) (pa : PlainAttrs T) (slot : Slot T name id) (hty : typeOf (.builtin id) = pure (.type "method_descriptor"))
  (h : K (.builtin id) [a] σ) : Gm c a name pl σ K := fun V va ra A s hA R hV => by
 have rv := ra.mono hV
 obtain ⟨h1, h2⟩ := hT s va R rv
 exact getMethod_builtin h1 pa slot hty h2 ⟨σ, .refl R, [a], .cons rv .nil, h⟩
theorem Gm.def {x dx : Addr} {ns : List Str} {vs : List PV} (B : Base c) (S : Self c x dx) {f : Addr} {name : Str} {pl : Sem Bool} {K : Value -> List PV -> Store -> Prop} (hm : (dx, Cell.inst ns vs) ∈ σ) (hn : name ∉ ns)
  (hf : findIn (KK c.P) (.ref TC) name = some (some (.ref f))) (ht : typeIn (KK c.P) (.ref f) = some (.type "function")) (h : K (.ref f) [.raw (.ref x)] σ) : Gm c (.raw (.ref x)) name pl σ K := fun V va ra A s hA R hV => by
 have := ra.inv_raw
 subst this
 obtain ⟨hl, es, n, hd, hr⟩ := R.inst hm
 have hl0 : lookIn name (dictOf es n) = some none := by rw [lookIn_dict]; unfold getL; rw [hr.miss (by rw [zip_fst hl]; exact hn), hr.noRef]; rfl
 exact method_fn (B.In R.le) (R.instAt S hd) (K_ga _) (K_g _) hf ht (by show (lookIn name (dictOf es n)).map (·.isSome) = some false; rw [hl0]; rfl) ⟨σ, .refl R, _, .cons (.raw _) .nil, h⟩
theorem Gm.own {x dx : Addr} {ns : List Str} {vs : List PV} (B : Base c) (S : Self c x dx) {name : Str} {pl : Sem Bool} {K : Value -> List PV -> Store -> Prop} {f : Value} (i : Nat) (hm : (dx, Cell.inst ns vs) ∈ σ) (hn : ns.Nodup) (hx : ns[i]? = some name) (hp : vs[i]? = some (.raw f))
  (hf : findIn (KK c.P) (.ref TC) name = some none) (ok : ownName c.P name = true) (hb : handedIn f = true) (h : K f [] σ) : Gm c (.raw (.ref x)) name pl σ K := fun V va ra A s hA R hV => by
 have := ra.inv_raw
 subst this
 obtain ⟨hl, es, n, hd, hr⟩ := R.inst hm
 refine method_usual (B.In R.le) (R.instAt S hd) (K_ga _) (K_g _) hf rfl ?_
 refine wm (W.getInst (ex := false) (Q := fun v V' σ' => ∃ ps, VRs V' ps [] /\ K v ps σ') B S i hm hn hx hp ok hb (fun V' v _ r => ⟨[], .nil, by have := r.inv_raw; subst this; exact h⟩) A s hA R hV) (fun v s' q => q)
theorem Gm.ownDef {x dx : Addr} {ns : List Str} {vs : List PV} (B : Base c) (S : Self c x dx) {name : Str} {pl : Sem Bool} {K : Value -> List PV -> Store -> Prop} {f : Value} {a : Value} (i : Nat) (hm : (dx, Cell.inst ns vs) ∈ σ) (hn : ns.Nodup) (hx : ns[i]? = some name) (hp : vs[i]? = some (.raw f))
  (hf : findIn (KK c.P) (.ref TC) name = some (some a)) (ht : typeIn (KK c.P) a = some (.type "function")) (ok : ownName c.P name = true) (hb : handedIn f = true) (h : K f [] σ) : Gm c (.raw (.ref x)) name pl σ K := fun V va ra A s hA R hV => by
 have := ra.inv_raw
 subst this
 obtain ⟨hl, es, n, hd, hr⟩ := R.inst hm
 have X := B.In R.le
 have I := R.instAt S hd
 obtain ⟨e, he, rv⟩ := hr.find (by rw [zip_fst hl]; exact hn) (zip_get hx hp)
 have hlook : lookIn name (dictOf es n) = some (some e.val) := by rw [lookIn_dict]; unfold getL; rw [he]
 have hcan := PySem.F.canon_object_ga
 unfold getMethod specialOf
 refine wb (wb (I.type.here ((looks_findIn X (K_ga _)).here ?_)))
 dsimp only
 rw [hcan, if_neg (by decide)]
 refine wb (wb (I.type.here ((looks_findIn X (K_g _)).here ?_)))
 refine wb (wb (I.type.here ((looks_findIn X hf).here (wb ((looks_typeIn X ht).here ?_)))))
 rw [if_neg (by decide +kernel)]
 refine wb (wpAny_loadPart I.at_ ?_)
 dsimp only
 refine wb (wb (wpAny_loadPart hd ?_))
 rw [nsLook_of hlook]
 refine wq ?_
 refine wb (W.on (W.getInst (ex := false) (Q := fun v V' σ' => v = f /\ σ' = σ) B S i hm hn hx hp ok hb (fun V' v _ r => ⟨r.inv_raw, rfl⟩)) hA R hV (fun v s' σ' o hq5 => ?_))
 obtain ⟨e1, e2⟩ := hq5
 subst e1 e2
 exact wq ⟨_, o, [], .nil, h⟩
inductive MadeIs (V : View) : PV -> Made -> Prop
 | val {p : PV} {v : Value} : VR V p v -> MadeIs V p (.val v)
 | str {x : Str} : x.length <= sizeLine -> MadeIs V (.str x) (.str x)
 | int {i : Int} : MadeIs V (.int i) (.int i)
theorem made_post {s : Shared} {p : PV} {m : Made} (R : Rep c σ s) (h : MadeIs (vw c.F σ s) p m) (q : Q p σ) : m.post (fun v s' => Ends c σ s (ret Q v) s') s := by
 cases h with
 | val hv => exact ret_here R hv q
 | str hx => exact ⟨hx, ret_toks R (Nat.le_succ _) (.str _ _) q⟩
 | int => exact ret_toks R (Nat.le_succ _) (.int _ _) q
theorem str_len_append (x y : Str) : (x ++ y).length = x.length + y.length := Str.length_append x y
theorem str_empty_of {x : Str} (h : (x.length == 0) = true) : x = Str.empty := by
 have : x.cps.size = 0 := by simpa [Str.length] using h
 exact Str.ext' (by rw [Array.eq_empty_of_size_eq_zero this]; rfl)
theorem empty_app {x y : Str} (h : (x.length == 0) = true) : x ++ y = y := by rw [str_empty_of h]; exact Str.empty_append y
theorem app_empty {x y : Str} (h : (y.length == 0) = true) : x ++ y = x := by
 have : y.cps.size = 0 := by simpa [Str.length] using h
 apply Str.ext'
 rw [Str.cps_append, Array.eq_empty_of_size_eq_zero this, Array.append_empty]
theorem Bin.add_int {a b : Int} (h : Q (.int (a + b)) σ) : Bin c .Add (.int a) (.int b) σ Q := fun V va vb ra rb A s hA R hV => by
 obtain ⟨t, rfl⟩ := ra.inv_int; obtain ⟨u, rfl⟩ := rb.inv_int
 exact PyProof.Rows.add_int (ret_toks R (Nat.le_succ _) (.int _ _) h)
theorem fmod_pos (a b : Int) (hb : 0 < b) : Int.fmod a b = a % b := by
 rw [Int.fmod_eq_emod_of_nonneg _ (Int.le_of_lt hb)]
theorem fdiv_pos (a b : Int) (hb : 0 < b) : Int.fdiv a b = a / b := by
 rw [Int.fdiv_eq_ediv_of_nonneg _ (Int.le_of_lt hb)]
theorem Bin.mod_int {a b : Int} (hb : 0 < b) (h : Q (.int (a % b)) σ) : Bin c .Mod (.int a) (.int b) σ Q := fun V va vb ra rb A s hA R hV => by
 obtain ⟨t, rfl⟩ := ra.inv_int; obtain ⟨u, rfl⟩ := rb.inv_int
 refine PyProof.Rows.mod_int (by lia) ?_
 rw [fmod_pos a b hb]
 exact ret_toks R (Nat.le_succ _) (.int _ _) h
theorem Bin.floordiv_int {a b : Int} (hb : 0 < b) (hl : Builtin.divisionGoesByPylong a b = false) (h : Q (.int (a / b)) σ) : Bin c .FloorDiv (.int a) (.int b) σ Q := fun V va vb ra rb A s hA R hV => by
 obtain ⟨t, rfl⟩ := ra.inv_int; obtain ⟨u, rfl⟩ := rb.inv_int
 refine PyProof.Rows.floordiv_int (by lia) ?_ (.inl hl)
 rw [fdiv_pos a b hb]
 exact ret_toks R (Nat.le_succ _) (.int _ _) h
theorem Bin.pow_int {a n : Int} (h0 : 0 <= n) (hb : (Builtin.Int.intBits a : Int) * n <= 2 ^ 27) (h : Q (.int (a ^ n.toNat)) σ) : Bin c .Pow (.int a) (.int n) σ Q := fun V va vb ra rb A s hA R hV => by
 obtain ⟨t, rfl⟩ := ra.inv_int; obtain ⟨u, rfl⟩ := rb.inv_int
 exact PyProof.Rows.pow_int h0 hb (ret_toks R (Nat.le_succ _) (.int _ _) h)
theorem Cmp.eq_int {a b : Int} (h : Q (.bool (a == b)) σ) : Cmp c .Eq (.int a) (.int b) σ Q := fun V va vb ra rb A s hA R hV => by
 obtain ⟨t, rfl⟩ := ra.inv_int; obtain ⟨u, rfl⟩ := rb.inv_int
 exact PyProof.Rows.eq_int (ret_here R (.bool _) h)
theorem Cmp.ne_int {a b : Int} (h : Q (.bool (a != b)) σ) : Cmp c .NotEq (.int a) (.int b) σ Q := fun V va vb ra rb A s hA R hV => by
 obtain ⟨t, rfl⟩ := ra.inv_int; obtain ⟨u, rfl⟩ := rb.inv_int
 exact PyProof.Rows.ne_int (ret_here R (.bool _) h)
theorem Cmp.lt_int {a b : Int} (h : Q (.bool (decide (a < b))) σ) : Cmp c .Lt (.int a) (.int b) σ Q := fun V va vb ra rb A s hA R hV => by
 obtain ⟨t, rfl⟩ := ra.inv_int; obtain ⟨u, rfl⟩ := rb.inv_int
 exact PyProof.Rows.lt_int (ret_here R (.bool _) h)
theorem Cmp.gt_int {a b : Int} (h : Q (.bool (decide (a > b))) σ) : Cmp c .Gt (.int a) (.int b) σ Q := fun V va vb ra rb A s hA R hV => by
 obtain ⟨t, rfl⟩ := ra.inv_int; obtain ⟨u, rfl⟩ := rb.inv_int
 exact PyProof.Rows.gt_int (ret_here R (.bool _) h)
theorem Bin.add_str {x y : Str} (hl : x.length + y.length <= sizeLine) (h : Q (.str (x ++ y)) σ) : Bin c .Add (.str x) (.str y) σ Q := fun V va vb ra rb A s hA R hV => by
 obtain ⟨t, rfl⟩ := ra.inv_str; obtain ⟨u, rfl⟩ := rb.inv_str
 refine PySem.P.add_str ?_
 cases h1 : x.length == 0 with
 | true => rw [empty_app h1] at h; exact made_post R (.val (.str _ _)) h
 | false =>
  cases h2 : y.length == 0 with
  | true => rw [app_empty h2] at h; exact made_post R (.val (.str _ _)) h
  | false => exact made_post R (.str (by rw [str_len_append]; exact hl)) h
theorem Cmp.eq_str {x y : Str} (h : Q (.bool (x == y)) σ) : Cmp c .Eq (.str x) (.str y) σ Q := fun V va vb ra rb A s hA R hV => by
 obtain ⟨t, rfl⟩ := ra.inv_str; obtain ⟨u, rfl⟩ := rb.inv_str
 exact PyProof.Rows.eq_str (ret_here R (.bool _) h)
theorem Cmp.ne_str {x y : Str} (h : Q (.bool (x != y)) σ) : Cmp c .NotEq (.str x) (.str y) σ Q := fun V va vb ra rb A s hA R hV => by
 obtain ⟨t, rfl⟩ := ra.inv_str; obtain ⟨u, rfl⟩ := rb.inv_str
 exact PyProof.Rows.ne_str (ret_here R (.bool _) h)
theorem Cmp.in_str {x y : Str} (h : Q (.bool !(Builtin.Str.occurrences x y 0 x.length 1).isEmpty) σ) : Cmp c .In (.str y) (.str x) σ Q := fun V va vb ra rb A s hA R hV => by
 obtain ⟨t, rfl⟩ := ra.inv_str; obtain ⟨u, rfl⟩ := rb.inv_str
 exact PyProof.Rows.in_str (ret_here R (.bool _) h)
theorem Cmp.is_none (h : Q (.bool true) σ) : Cmp c .Is .none .none σ Q := fun V va vb ra rb A s hA R hV => by
 rw [ra.inv_none, rb.inv_none]; exact wpAny_is_plain rfl (ret_here R (.bool _) h)
theorem Cmp.isnt_none (h : Q (.bool false) σ) : Cmp c .IsNot .none .none σ Q := fun V va vb ra rb A s hA R hV => by
 rw [ra.inv_none, rb.inv_none]; exact wpAny_isNot_plain rfl (ret_here R (.bool _) h)
theorem Tr.bool {b : Bool} {Q : Bool -> Store -> Prop} (h : Q b σ) : Tr c (.bool b) σ Q := fun V va ra A s hA R hV => by
 rw [ra.inv_bool]; exact wpAny_truthy_bool ⟨σ, .refl R, h⟩
theorem Tr.none {Q : Bool -> Store -> Prop} (h : Q false σ) : Tr c .none σ Q := fun V va ra A s hA R hV => by
 rw [ra.inv_none]; exact PyProof.Rows.truthy_none ⟨σ, .refl R, h⟩
theorem Tr.int {a : Int} {Q : Bool -> Store -> Prop} (h : Q (a != 0) σ) : Tr c (.int a) σ Q := fun V va ra A s hA R hV => by
 obtain ⟨t, rfl⟩ := ra.inv_int; exact PySem.P.truthy_int ⟨σ, .refl R, h⟩
theorem Tr.str {x : Str} {Q : Bool -> Store -> Prop} (hx : x.length <= sizeLine) (h : Q (x.length != 0) σ) : Tr c (.str x) σ Q := fun V va ra A s hA R hV => by
 obtain ⟨t, rfl⟩ := ra.inv_str
 rw [sizeLine_eq] at hx
 refine PySem.P.truthy_str (by lia) ⟨σ, .toks R _ (by lia), ?_⟩
 have e : ((x.length : Int) != 0) = (x.length != 0) := by
  rw [Bool.eq_iff_iff]; simp
 rw [e]; exact h
theorem Tr.list {a : Addr} {l : List PV} {Q : Bool -> Store -> Prop} (hm : (a, Cell.list l) ∈ σ) (hl : l.length <= sizeLine) (h : Q (!l.isEmpty) σ) : Tr c (.raw (.ref a)) σ Q := fun V va ra A s hA R hV => by
 have := ra.inv_raw
 subst this
 obtain ⟨o, e, vs, n, rfl, rv⟩ := R.cells _ hm
 rw [sizeLine_eq] at hl
 refine wpAny_truthy_list (items := vs.toArray) ⟨_, e, rfl, n, rfl⟩ (by rw [List.size_toArray, rv.length]; lia) ⟨σ, .toks R _ (by lia), ?_⟩
 have e2 : vs.toArray.isEmpty = l.isEmpty := by
  have := rv.length
  cases vs <;> cases l <;> simp_all
 rw [e2]; exact h
end
noncomputable def getBody {fd : FuncData} {b : List Stmt} (_ : fd.body = .stmts b) : List Stmt := b
inductive Lk : List Str -> List (Option PV) -> Str -> PV -> Prop
 | head {x : Str} {ns : List Str} {p : PV} {vs : List (Option PV)} : Lk (x :: ns) (some p :: vs) x p
 | tail {x y : Str} {ns : List Str} {p : PV} {v : Option PV} {vs : List (Option PV)} : Lk ns vs x p -> Lk (y :: ns) (v :: vs) x p
theorem Lk.idx {x : Str} {p : PV} {ns : List Str} {vs : List (Option PV)} (h : Lk ns vs x p) : ∃ i : Nat, ns[i]? = some x /\ vs[i]? = some (some p) :=
 h.rec (motive := fun ns vs x p _ => ∃ i : Nat, ns[i]? = some x /\ vs[i]? = some (some p)) ⟨0, rfl, rfl⟩ fun _ ih => ih.elim fun i h => ⟨i + 1, h⟩
theorem Lk.i1 {a x : Str} {ns : List Str} {v : Option PV} {p : PV} {vs : List (Option PV)} : Lk (a :: x :: ns) (v :: some p :: vs) x p := .tail .head
theorem Lk.i2 {a b x : Str} {ns : List Str} {v w : Option PV} {p : PV} {vs : List (Option PV)} : Lk (a :: b :: x :: ns) (v :: w :: some p :: vs) x p := .tail (.tail .head)
theorem Lk.i3 {a b d x : Str} {ns : List Str} {v w u : Option PV} {p : PV} {vs : List (Option PV)} : Lk (a :: b :: d :: x :: ns) (v :: w :: u :: some p :: vs) x p := .tail (.tail (.tail .head))
theorem Lk.t4 {a b d e x : Str} {ns : List Str} {v w u z : Option PV} {p : PV} {vs : List (Option PV)} (h : Lk ns vs x p) : Lk (a :: b :: d :: e :: ns) (v :: w :: u :: z :: vs) x p := .tail (.tail (.tail (.tail h)))
inductive Su (x : Str) (p : PV) : List Str -> List (Option PV) -> List (Option PV) -> Prop
 | head {ns : List Str} {v : Option PV} {vs : List (Option PV)} : Su x p (x :: ns) (v :: vs) (some p :: vs)
 | tail {y : Str} {ns : List Str} {v : Option PV} {vs vs' : List (Option PV)} : Su x p ns vs vs' -> Su x p (y :: ns) (v :: vs) (v :: vs')
theorem Su.i1 {a x : Str} {ns : List Str} {p : PV} {v o : Option PV} {vs : List (Option PV)} : Su x p (a :: x :: ns) (v :: o :: vs) (v :: some p :: vs) := .tail .head
theorem Su.i2 {a b x : Str} {ns : List Str} {p : PV} {v w o : Option PV} {vs : List (Option PV)} : Su x p (a :: b :: x :: ns) (v :: w :: o :: vs) (v :: w :: some p :: vs) := .tail (.tail .head)
theorem Su.i3 {a b d x : Str} {ns : List Str} {p : PV} {v w u o : Option PV} {vs : List (Option PV)} : Su x p (a :: b :: d :: x :: ns) (v :: w :: u :: o :: vs) (v :: w :: u :: some p :: vs) := .tail (.tail (.tail .head))
theorem Su.t4 {a b d e x : Str} {ns : List Str} {p : PV} {v w u z : Option PV} {vs vs' : List (Option PV)} (h : Su x p ns vs vs') : Su x p (a :: b :: d :: e :: ns) (v :: w :: u :: z :: vs) (v :: w :: u :: z :: vs') := .tail (.tail (.tail (.tail h)))
theorem Su.idx {x : Str} {p : PV} {ns : List Str} {vs vs' : List (Option PV)} (h : Su x p ns vs vs') : ∃ i : Nat, ns[i]? = some x /\ vs' = vs.set i (some p) :=
 h.rec (motive := fun ns vs vs' _ => ∃ i : Nat, ns[i]? = some x /\ vs' = vs.set i (some p)) ⟨0, rfl, rfl⟩ fun _ ih => ih.elim fun i h => ⟨i + 1, h.1, congrArg (_ :: ·) h.2⟩
section
variable {c : Cx} {env : Env} {σ : Store} {Q : PV -> Store -> Prop} {N : Store -> Prop} {R : PV -> Store -> Prop} {ns : List Str} {vs : List (Option PV)}
theorem E.lk {x : Str} {pos : Pos} {p : PV} (hL : Lo env ns) (hm : (env.locals, Cell.loc ns vs) ∈ σ) (hk : Lk ns vs x p) (h : Q p σ) : E c env (.Name x pos) σ Q :=
 let ⟨i, a, b⟩ := hk.idx
 E.loc i hL hm a b h
theorem W.su {L : Addr} {x : Str} {p : PV} {v : Value} {V : View} {vs' : List (Option PV)} {τ : Store} {Q : Unit -> View -> Store -> Prop} (hL : Lo env ns) (hl : env.locals = L) (hv : VR V p v) (hs : Su x p ns vs vs')
  (h : ∀ V', VLe V V' -> Q () V' ((L, .loc ns vs') :: τ)) : W c (storeName env x v) V ((L, .loc ns vs) :: τ) Q := by
 obtain ⟨i, a, b⟩ := hs.idx
 subst b hl
 exact W.store i hL a hv .head h
inductive Kas (L : Addr) (ns : List Str) (x : Str) (N : Store -> Prop) (p : PV) (σ : Store) : Prop
 | mk (vs vs' : List (Option PV)) (τ : Store) (e : σ = (L, .loc ns vs) :: τ) (u : Su x p ns vs vs') (n : N ((L, .loc ns vs') :: τ)) : Kas L ns x N p σ
theorem X.asg {L : Addr} {x : Str} {pos' pos : Pos} {e : PySem.Expr} (hL : Lo env ns) (hl : env.locals = L)
  (h : E c env e σ (Kas L ns x N)) (hs : autoParam (swapsWith e (some (.Name x pos')) pos.line env = pure false) aRfl) :
  X c env (.Assign [.Name x pos'] e pos) σ N R := fun V A s hA Rp hV =>
 wpAny_Assign_Name (W.onr (h V) hA Rp hV (fun v s1 σ1 o1 p rp hq1 => by
  obtain ⟨vs, vs', τ, e1, U, q⟩ := hq1
  subst e1
  exact W.on (W.su (c := c) (Q := fun _ _ σ' => N σ') hL hl rp U (fun _ _ => q)) hA o1.rep (.refl _) (fun _ s2 σ3 o3 q3 => ⟨σ3, o1.trans o3, q3⟩))) hs
theorem E.globK (B : Base c) {x : Str} {pos : Pos} {v : Value} (hk : env.scope.kind = .function) (hx : env.kindOf x = some .globalImplicit) (hg : env.globals = mainGlobals) (e : nsIn (KK c.P) mainGlobals x = some (some v)) (h : Q (.raw v) σ)
  (hd : autoParam ((x == ("__debug__" : Str)) = false) aDec) : E c env (.Name x pos) σ Q := fun V A s hA Rp hV => by
 obtain ⟨p, loose, mg, mb, T⟩ := B.top
 have T' := T s.heap Rp.le
 exact Name_function_global hk hx (loadGlobal_global (env := env) (by rw [hg]; exact T'.g) (mg_of (B.In Rp.le) T'.g e) (ret_here Rp (.raw _) h)) hd
theorem E.globB (B : Base c) {x : Str} {pos : Pos} {v : Value} (hk : env.scope.kind = .function) (hx : env.kindOf x = some .globalImplicit) (hg : env.globals = mainGlobals) (hb : env.builtins = builtinsNs) (e : nsIn (KK c.P) mainGlobals x = some Option.none) (hv : bootBuiltins x = some v) (h : Q (.raw v) σ)
  (hn : autoParam (x ≠ "__name__") aDec) (hd : autoParam ((x == ("__debug__" : Str)) = false) aDec) : E c env (.Name x pos) σ Q := fun V A s hA Rp hV => by
 obtain ⟨p, loose, mg, mb, T⟩ := B.top
 have T' := T s.heap Rp.le
 exact Name_function_global hk hx (loadGlobal_builtin (env := env) (by rw [hg]; exact T'.g) (mg_none_of (B.In Rp.le) T'.g e) (by rw [hb]; exact T'.b) ((T'.builtins x hn).trans hv) (ret_here Rp (.raw _) h)) hd
theorem X.try {body orelse : List Stmt} {h0 : ExceptHandler} {hs : List ExceptHandler} {pos : Pos} (h : Xs c env body σ (fun σ1 => Xs c env orelse σ1 N R) R) : X c env (.Try body (h0 :: hs) orelse [] pos) σ N R := fun V A s hA Rp hV =>
 wpAny_Try_except (W.on (h V) hA Rp hV (fun f s1 σ1 o1 q1 => by
  cases f with
  | next => exact W.on (q1 _) hA o1.rep (.refl _) (fun b s2 σ₂ o2 q2 => ⟨σ₂, o1.trans o2, q2⟩)
  | ret v => exact ⟨σ1, o1, q1⟩
  | brk => exact q1.elim
  | cont => exact q1.elim))
noncomputable def Fresh (c : Cx) (env : Env) (e : PySem.Expr) (y : Str) (σ : Store) : Prop := ∀ V, W c (eval e env) V σ (fun v V' σ' => ∃ t, v = .str y t /\ 0 < t /\ V.tk <= t /\ t < V'.tk /\ σ' = σ)
theorem Fresh.const (B : Base c) {y : Str} {k : Nat} {pos : Pos} : Fresh c env (.Constant (.str y) k pos) y σ := fun V A s hA R hV =>
 wpAny_Constant_str ⟨σ, .toks R _ (Nat.le_succ _), s.toks, rfl, B.toks R, hV.tk, Nat.lt_succ_self _, rfl⟩
theorem Fresh.add (B : Base c) {l r : PySem.Expr} {x y : Str} {pos : Pos} (hl : E c env l σ (fun p σ1 => p = .str x /\ σ1 = σ)) (hr : E c env r σ (fun p σ1 => p = .str y /\ σ1 = σ)) (hx : (x.length == 0) = false) (hy : (y.length == 0) = false) (hz : x.length + y.length <= sizeLine) :
  Fresh c env (.BinOp l .Add r pos) (x ++ y) σ := fun V A s hA R hV =>
 wpAny_BinOp (W.onr (hl V) hA R hV (fun va s1 σ1 o1 a ra hq2 => by
  obtain ⟨e1, e2⟩ := hq2
  subst e1 e2
  refine W.onr (hr _) hA o1.rep (.refl _) (fun vb s2 σ₂ o2 b rb hq3 => ?_)
  obtain ⟨e1, e2⟩ := hq3
  subst e1 e2
  obtain ⟨t, rfl⟩ := ra.inv_str
  obtain ⟨u, rfl⟩ := rb.inv_str
  refine PySem.P.add_str ?_
  rw [hx, hy]
  refine ⟨by rw [str_len_append]; exact hz, σ₂, (o1.trans o2).trans (.toks o2.rep _ (Nat.le_succ _)), s2.toks, rfl, B.toks o2.rep, ?_, Nat.lt_succ_self _, rfl⟩
  exact Nat.le_trans hV.tk (Nat.le_trans o1.view.tk o2.view.tk)))
noncomputable def OldS (c : Cx) (env : Env) (e : PySem.Expr) (y : Str) (u : Tok) (σ : Store) : Prop := (∀ s, Rep c σ s -> 0 < u /\ u < s.toks) /\ ∀ V, W c (eval e env) V σ (fun v V' σ' => v = .str y u /\ σ' = σ)
theorem OldS.lk {x y : Str} {u : Tok} {pos : Pos} (hL : Lo env ns) (hm : (env.locals, Cell.loc ns vs) ∈ σ) (hk : Lk ns vs x (.tstr y u)) : OldS c env (.Name x pos) y u σ := by
 refine ⟨fun s R => ?_, fun V => (E.lk (c := c) (Q := fun p σ' => p = .tstr y u /\ σ' = σ) hL hm hk ⟨rfl, rfl⟩ V).mono fun v V' σ' _ ⟨p, r, e1, e2⟩ => ?_⟩
 ·obtain ⟨i, a, b⟩ := hk.idx
  obtain ⟨m, _, hr⟩ := R.loc hm
  obtain ⟨v, _, r⟩ := hr i _ _ a b
  cases r
  exact ⟨by assumption, by assumption⟩
 ·subst e1
  cases r
  exact ⟨rfl, e2⟩
theorem getM_str {name : Str} {id : String} {pl : Sem Bool} {x : Str} {t : Tok} {A : Around} {s : Shared} {Q : Value × List Value -> Shared -> Prop} {E : Value -> Shared -> Prop} (slot : Slot "str" name id) (hty : typeOf (.builtin id) = pure (.type "method_descriptor")) (h : Q (.builtin id, [.str x t]) s) :
  wpAny c.M A (getMethod (.str x t) name pl) Q E s := getMethod_builtin (typeIs_str _ _ _) F.plainAttrs_str slot hty (fun a e => by cases e) h
theorem call_replace {x y z : Str} {t u v : Tok} {V : View} (hu : u ≠ 0) (hv : v ≠ 0) (huv : u ≠ v) (hyz : (y == z) = false) (hb : x.length + (x.length + 1) * z.length <= sizeLine) (h : Q (.str (Txt.replace x y z)) σ) :
  W c (PySem.call (.builtin "str.replace") [.str x t, .str y u, .str z v]) V σ (ret Q) := fun A s hA R hV => by
 have hl : Builtin.Str.tooLong (x.length + (Builtin.Str.occurrences x y 0 x.length (x.length + 1)).length * z.length) = false := by
  have h1 := StrLaws.occ_length_le x y 0 x.length (x.length + 1)
  have h2 : (Builtin.Str.occurrences x y 0 x.length (x.length + 1)).length * z.length <= (x.length + 1) * z.length := Nat.mul_le_mul_right _ h1
  unfold Builtin.Str.tooLong
  exact decide_eq_false (by omega)
 refine call_gives F.slot_str_replace (typeIs_str _ _ _) F.entry_str_replace (F.args_str_replace_3 _ _ _) (gives_str_replace x y z t u v fun _ => ⟨by simp [hu, hv], by simp [huv], hyz, hl⟩) ?_
 have h' := h
 unfold Txt.replace at h'
 cases hc : ((Builtin.Str.occurrences x y 0 x.length (x.length + 1)).isEmpty || (y.length == 0 && z.length == 0))
 ·rw [hc] at h'
  exact made_post R (.str (by rw [sizeLine_eq] at hb ⊢; exact fits_replaced y (by omega))) h'
 ·rw [hc] at h'
  exact made_post R (.val (.str _ _)) h'
inductive Krp (c : Cx) (env : Env) (e1 e2 : PySem.Expr) (Q : PV -> Store -> Prop) (p : PV) (σ : Store) : Prop
 | mk (x y z : Str) (e : p = .str x) (f : Fresh c env e1 y σ) (g : Fresh c env e2 z σ \/ ∃ u, OldS c env e2 z u σ) (n : (y == z) = false) (l : x.length + (x.length + 1) * z.length <= sizeLine) (q : Q (.str (Txt.replace x y z)) σ) : Krp c env e1 e2 Q p σ
theorem E.rep (B : Base c) {o e1 e2 : PySem.Expr} {apos pos : Pos} {pl : Sem Bool}
  (h : E c env o σ (Krp c env e1 e2 Q))
  (he : autoParam (eval (.Call (.Attribute o "replace" apos) [e1, e2] [] pos) env = (do
   let ov <- eval o env
   standAt apos.atName
   let (f, first) <- holding [ov] (getMethod ov "replace" pl)
   callWith pos f first (backTo pos (starEach [e1, e2] env)) [])) aRfl)
  (hst : autoParam (backTo pos (starEach [e1, e2] env) = [(false, eval e1 env), (false, eval e2 env)]) aRfl) : E c env (.Call (.Attribute o "replace" apos) [e1, e2] [] pos) σ Q := fun V A s hA R hV => by
 refine MethodCall_ (W.onr (h V) hA R hV (fun va s1 σ1 o1 a ra hq5 => ?_)) he
 obtain ⟨x, y, z, e₁, f1, f2, hyz, hb, q⟩ := hq5
 subst e₁
 obtain ⟨t, rfl⟩ := ra.inv_str
 refine getM_str F.slot_str_replace F.type_str_replace ?_
 refine callWith_gen (evalArgs_at (by rw [hst]; rfl) ?_)
 rw [hst]
 refine Calls.spliced_cons (W.on (f1 _) hA o1.rep (.refl _) (fun v1 s2 σ₂ o2 hq6 => ?_))
 obtain ⟨tk, e₁, ht0, ht1, ht2, e₂⟩ := hq6
 subst e₁ e₂
 have fin : ∀ (u : Tok) (s3 : Shared), u ≠ 0 -> tk ≠ u -> Out c σ₂ s2 σ₂ s3 -> (∃ kp, ∀ (Q' : Keeper -> Shared -> Prop), Q' kp s3 -> wpAny c.M A (keeperOf (.builtin "str.replace")) Q' (fun _ _ => False) s3) /\
   wpAny c.M A (PySem.call (.builtin "str.replace") ([.str x t] ++ [.str y tk, .str z u]) []) (fun v s' => Ends c σ s (ret Q v) s') (fun _ _ => False) s3 := fun u s3 hu huv o3 => by
  refine ⟨⟨.machine, fun Q' q => wq q⟩, ?_⟩
  exact W.on (call_replace (c := c) (V := vw c.F σ₂ s3) (t := t) (Nat.pos_iff_ne_zero.mp ht0) hu huv hyz hb q) hA o3.rep (.refl _) (fun v s4 σ4 o4 q4 => ⟨σ4, ((o1.trans o2).trans o3).trans o4, q4⟩)
 rcases f2 with f2 | ⟨u, f0, f2⟩
 ·refine Calls.spliced_cons (W.on (f2 (vw c.F σ₂ s2)) hA o2.rep (.refl _) (fun v2 s3 σ3 o3 hq7 => ?_))
  obtain ⟨u, e₁, hu0, hu1, hu2, e₂⟩ := hq7
  subst e₁ e₂
  refine Calls.spliced_nil (fin u s3 (Nat.pos_iff_ne_zero.mp hu0) ?_ o3)
  have : tk < u := Nat.lt_of_lt_of_le ht2 hu1
  exact Nat.ne_of_lt this
 ·refine Calls.spliced_cons (W.on (f2 (vw c.F σ₂ s2)) hA o2.rep (.refl _) (fun v2 s3 σ3 o3 hq8 => ?_))
  obtain ⟨e₁, e₂⟩ := hq8
  subst e₁ e₂
  have := f0 s1 o1.rep
  refine Calls.spliced_nil (fin u s3 (Nat.pos_iff_ne_zero.mp this.1) ?_ o3)
  have h2 : u < tk := Nat.lt_of_lt_of_le this.2 ht1
  exact (Nat.ne_of_lt h2).symm
end
noncomputable def Sl (l : List Nat) : Str := ⟨l.toArray⟩
theorem Sl_len (l : List Nat) : (Sl l).length = l.length := by simp [Sl, Str.length]
section
variable {c : Cx} {env : Env} {σ : Store} {Q : PV -> Store -> Prop} {N : Store -> Prop} {R : PV -> Store -> Prop}
theorem X.escIf (B : Base c) {L : Addr} {τ : Store} {y z : Str} {ch : Nat} {l : List Nat} {k1 k2 k3 : Nat} {p1 p2 p3 p4 p5 p6 p7 p8 p9 p10 : Pos}
  (hL : Lo env ["text"]) (hl : env.locals = L) (hy : y = ⟨#[ch]⟩) (hyz : (y == z) = false) (hb : l.length + (l.length + 1) * z.length <= sizeLine)
  (h : N ((L, .loc ["text"] [some (.str (Sl (esc1 ch z.cps.toList l)))]) :: τ))
  (he : autoParam (∀ pl : Sem Bool, True) aItr)
  (hmeth : autoParam (∃ pl, eval (.Call (.Attribute (.Name "text" p4) "replace" p5) [.Constant (.str y) k2 p6, .Constant (.str z) k3 p7] [] p8) env = (do
   let ov <- eval (.Name "text" p4) env
   standAt p5.atName
   let (f, first) <- holding [ov] (getMethod ov "replace" pl)
   callWith p8 f first (backTo p8 (starEach [.Constant (.str y) k2 p6, .Constant (.str z) k3 p7] env)) [])) aEx)
  (hm : autoParam (behindInMarks .In (.Name "text" p2) = false) aWur)
  (hs : autoParam (swapsWith (.Call (.Attribute (.Name "text" p4) "replace" p5) [.Constant (.str y) k2 p6, .Constant (.str z) k3 p7] [] p8) (some (.Name "text" p9)) p10.line env = pure false) aRfl) :
  X c env (.If (.Compare (.Constant (.str y) k1 p1) [.In] [.Name "text" p2] p3) [.Assign [.Name "text" p9] (.Call (.Attribute (.Name "text" p4) "replace" p5) [.Constant (.str y) k2 p6, .Constant (.str z) k3 p7] [] p8) p10] [] pos)
   ((L, .loc ["text"] [some (.str (Sl l))]) :: τ) N R := by
 obtain ⟨pl, he⟩ := hmeth
 subst hl
 refine X.iff (T.cmp (E.str (E.lk hL (.head _) .head (Cmp.in_str (Tr.bool ?_)))) hm)
 have ef : (!(Builtin.Str.occurrences (Sl l) y 0 (Sl l).length 1).isEmpty) = decide (ch ∈ l) := by
  rw [hy, StrLaws.found_one]; exact decide_eq_decide.mpr (by simp [Sl])
 rw [ef]
 by_cases hc : ch ∈ l
 ·rw [if_pos (decide_eq_true hc)]
  refine Xs.cons (X.asg hL rfl (E.rep B (E.lk hL (.head _) .head ⟨Sl l, y, z, rfl, .const B, .inl (.const B), hyz, by rw [Sl_len]; exact hb, _, _, _, rfl, .head, Xs.nil ?_⟩) he) hs)
  rw [hy, replace_esc1]
  exact h
 ·rw [if_neg (by simpa using hc)]
  rw [esc1_none hc] at h
  exact Xs.nil h
end
noncomputable def fd154 : FuncData := getFd (a := 154) rfl
noncomputable def bd154 : List Stmt := getBody (fd := fd154) rfl
theorem at154 (P : Params) : FnAt P 154 fd154 := by kernel_rfl
theorem ok154 : FnOk fd154 ["text"] [] bd154 := ⟨rfl, rfl, rfl, rfl, by decide +kernel, by decide, by decide +kernel⟩
theorem cd154 (P : Params) : codeIn (KK P) fd154.code fd154.qualname = true := by kernel_rfl
theorem esc1_len {c : Nat} {r : List Nat} (hr : 1 <= r.length) : ∀ l, (esc1 c r l).length <= r.length * l.length
 | [] => Nat.zero_le _
 | d :: l => by
  have := esc1_len (c := c) hr l
  unfold esc1 at this ⊢
  rw [List.flatMap_cons, List.length_append, List.length_cons, Nat.mul_succ]
  split
  ·lia
  ·simp only [List.length_cons, List.length_nil]; lia
theorem esc_room {c n : Nat} {r : List Nat} (z : Str) {l : List Nat} (hz : z.cps.toList = r) (hr : 1 <= r.length) (hl : l.length <= n) : (esc1 c z.cps.toList l).length <= r.length * n := by
 rw [hz]
 exact Nat.le_trans (esc1_len hr l) (Nat.mul_le_mul_left _ hl)
theorem room_of {l : List Nat} {z : Str} {n m : Nat} (hl : l.length <= n) (hz : z.length = m) (h : n + (n + 1) * m <= 16777216) : l.length + (l.length + 1) * z.length <= sizeLine := by
 rw [sizeLine_eq, hz]
 have : (l.length + 1) * m <= (n + 1) * m := Nat.mul_le_mul_right _ (by lia)
 lia
theorem run154 {c : Cx} (B : Base c) {L : Addr} {l : List Nat} {σ : Store} {Q : PV -> Store -> Prop} (hz : l.length <= 5000) (h : Q (.str (Sl (escC l))) σ) (hL : Lo (callEnv fd154 L 154) ["text"]) :
  Xs c (callEnv fd154 L 154) bd154 ((L, .loc ["text"] [some (.str (Sl l))]) :: σ) (fun σ' => fin Q .none σ') (fin Q) := by
 refine Xs.cons (X.try ?_)
 have h1 := esc_room (c := 38) ("&amp;" : Str) (r := ent 38) rfl (by decide) hz
 have h2 := esc_room (c := 60) ("&lt;" : Str) (r := ent 60) rfl (by decide) h1
 have h3 := esc_room (c := 62) ("&gt;" : Str) (r := ent 62) rfl (by decide) h2
 refine Xs.cons (X.escIf B (ch := 38) hL rfl rfl rfl (room_of hz rfl (by decide)) ?_)
 refine Xs.cons (X.escIf B (ch := 60) hL rfl rfl rfl (room_of h1 rfl (by decide)) ?_)
 refine Xs.cons (X.escIf B (ch := 62) hL rfl rfl rfl (room_of h2 rfl (by decide)) ?_)
 refine Xs.cons (X.escIf B (ch := 13) hL rfl rfl rfl (room_of h3 rfl (by decide)) ?_)
 exact Xs.cons (X.return (E.lk hL (.head _) .head ⟨σ, .cons _ (.refl _), h⟩))
theorem Base.up {c : Cx} (B : Base c) (d u : Nat) : Base { c with d := d, u := u } := ⟨B.K, B.top, B.tk, B.bm⟩
noncomputable def Cc (c : Cx) (f : Value) (ps : List PV) (σ : Store) (Q : PV -> Store -> Prop) : Prop := ∀ V vs, VRs V ps vs -> C c (.call f ⟨vs, []⟩) V σ (ret Q)
theorem Cc.ca {c : Cx} {f : Value} {ps : List PV} {σ : Store} {Q : PV -> Store -> Prop} (h : Cc c f ps σ Q) : Ca c f ps σ Q := fun V vs hv => W.call (h V vs hv)
theorem Cc.fn {c : Cx} (B : Base c) {f : Addr} {fd : FuncData} {body : List Stmt} {ps os : List Str} {pvs pvs' : List PV} {σ : Store} {Q : PV -> Store -> Prop}
  (ho : FnAt c.P f fd) (ok : FnOk fd ps os body) (hcd : codeIn (KK c.P) fd.code fd.qualname = true) (hd : c.d < recursionLimit)
  (hbind : ∀ (s : Shared) (V : View) vals, Le c.β s.heap -> VRs V pvs vals -> ∃ vals', BindsTo s fd ⟨vals, []⟩ (ps.zip vals') /\ VRs V pvs' vals') (hlen : ps.length = pvs'.length)
  (h : ∀ L, Lo (callEnv fd L f) (ps ++ os) ->
   Xs { c with d := c.d + 1, u := c.u + 3 } (callEnv fd L f) body ((L, .loc (ps ++ os) (pvs'.map some ++ List.replicate os.length none)) :: σ) (fun σ' => fin Q .none σ') (fin Q)) :
  Cc c (.ref f) pvs σ Q := fun V vs hv A s hA R hV => by
 obtain ⟨vals', hb, hv'⟩ := hbind s (vw c.F σ s) vs R.le (hv.mono hV)
 exact C.fn0 B ho ok hcd hd hb hv' hlen h hA R
theorem Ca.fn {c : Cx} (B : Base c) {f : Addr} {fd : FuncData} {body : List Stmt} {ps os : List Str} {pvs pvs' : List PV} {σ : Store} {Q : PV -> Store -> Prop}
  (ho : FnAt c.P f fd) (ok : FnOk fd ps os body) (hcd : codeIn (KK c.P) fd.code fd.qualname = true) (hd : c.d < recursionLimit)
  (hbind : ∀ (s : Shared) (V : View) vals, Le c.β s.heap -> VRs V pvs vals -> ∃ vals', BindsTo s fd ⟨vals, []⟩ (ps.zip vals') /\ VRs V pvs' vals') (hlen : ps.length = pvs'.length)
  (h : ∀ L, Lo (callEnv fd L f) (ps ++ os) ->
   Xs { c with d := c.d + 1, u := c.u + 3 } (callEnv fd L f) body ((L, .loc (ps ++ os) (pvs'.map some ++ List.replicate os.length none)) :: σ) (fun σ' => fin Q .none σ') (fin Q)) :
  Ca c (.ref f) pvs σ Q := (Cc.fn B ho ok hcd hd hbind hlen h).ca
theorem Ca154 {c : Cx} (B : Base c) (hd : c.d < recursionLimit) {l : List Nat} {σ : Store} {Q : PV -> Store -> Prop} (hz : l.length <= 5000) (h : Q (.str (Sl (escC l))) σ) : Ca c (.ref 154) [.str (Sl l)] σ Q :=
 Ca.fn B (at154 _) ok154 (cd154 _) hd (fun s V vals _ hv => ⟨vals, by obtain ⟨v, _, rfl, _, hv⟩ := hv.inv_cons; rw [hv.inv_nil]; exact BindsTo.of_eq rfl, hv⟩) rfl (fun L hL => run154 (B.up _ _) hz h hL)
noncomputable def Cx.ext (c : Cx) (F : List Addr) (β : View) : Cx := { c with F := F, β := β }
theorem Base.ext {c : Cx} (B : Base c) {F : List Addr} {β : View} (h : VLe c.β β) : Base (c.ext F β) :=
 ⟨fun a o e => h.mem _ _ (B.K a o e), B.top.imp fun _ => Exists.imp fun _ => Exists.imp fun _ => Exists.imp fun _ t hp k => t hp fun a o e => k a o (h.mem _ _ e), Nat.lt_of_lt_of_le B.tk h.tk, B.bm.imp fun _ => Exists.imp fun _ => Exists.imp fun _ q => ⟨fun hp k => q.1 hp fun a o e => k a o (h.mem _ _ e), q.2.1, q.2.2.1, h.mem _ _ q.2.2.2.1, q.2.2.2.2⟩⟩
theorem Self.ext {c : Cx} {x dx : Addr} (S : Self c x dx) {F : List Addr} {β : View} (h : VLe c.β β) : Self (c.ext F β) x dx := ⟨h.mem _ _ S.at_⟩
section
variable {c : Cx} {σ τ : Store} {s : Shared}
theorem Rep.grow {h' : Heap} {tk : Nat} (R : Rep c (σ ++ τ) s) (hk : ∀ b o, b ∉ addrs τ -> s.heap.get? b = some o -> h'.get? b = some o) (ht : s.toks <= tk) : Out c (σ ++ τ) s σ { s with heap := h', toks := tk } := by
 have nd := R.nodup
 rw [addrs, List.map_append] at nd
 have hap := List.nodup_append.mp nd
 have kv : VLe (vw c.F (σ ++ τ) s) (vw c.F σ { s with heap := h', toks := tk }) := ⟨fun b y e => by
  obtain ⟨e1, e2, e3⟩ := vw_some.mp e
  rw [addrs, List.map_append, List.mem_append] at e2
  exact vw_some.mpr ⟨e1, fun q => e2 (.inl q), hk b y (fun q => e2 (.inr q)) e3⟩, ht⟩
 have kF : ∀ a ∈ c.F, ∀ o, s.heap.get? a = some o -> h'.get? a = some o := fun a ha o e => hk a o (fun q => R.disj a (by rw [addrs, List.map_append]; exact memR _ q) ha) e
 refine ⟨⟨rfl, rfl⟩, ⟨hap.1, fun a ha => R.disj a (by rw [addrs, List.map_append]; exact memL _ ha), fun a ha => let ⟨o, e⟩ := R.old a ha; ⟨o, kF a ha o e⟩,
  fun q => R.sys (by rw [addrs, List.map_append]; exact memL _ q), big_mono kv R.big, R.base.trans kv, fun p hp => ?_⟩, kv, kF⟩
 obtain ⟨y, e, r⟩ := R.cells p (memL _ hp)
 refine ⟨y, hk _ _ (fun q => ?_) e, r.mono kv⟩
 exact hap.2.2 p.1 (List.mem_map_of_mem hp) p.1 q rfl
theorem Out.perm_r {σ1 σ₂ : Store} {s' : Shared} (o : Out c σ s σ1 s') (hp : σ₂.Perm σ1) : Out c σ s σ₂ s' :=
 o.trans (Out.sub o.rep (fun p h => hp.mem_iff.mp h) ((hp.map Prod.fst).nodup_iff.mpr o.rep.nodup))
theorem Rep.newAt {p : Addr × Cell} (R : Rep c (p :: σ) s) (o : Obj) (x : Cell) (hc : CR c.prog c.w (vw c.F (p :: σ) s) x o) (hf : autoParam (o.isFreed = false) aRfl) :
  Out c (p :: σ) s (p :: (s.heap.objs.size, x) :: σ) { s with heap := s.heap.push o } := (R.push_cell o x hc hf).perm_r (.swap _ _ _)
noncomputable def Asg (c : Cx) (env : Env) (target : PySem.Expr) (p : PV) (σ : Store) (N : Store -> Prop) : Prop := ∀ V v, VR V p v -> W c (assign target env v) V σ (fun _ _ σ' => N σ')
noncomputable def LAt (c : Cx) (σ : Store) (a : Addr) (l : List PV) : Prop := ∀ s, Rep c σ s -> ∃ vs n, s.heap.get? a = some (seqObj "list" vs.toArray n) /\ VRs (vw c.F σ s) l vs
theorem LAt.cell {a : Addr} {l : List PV} (h : (a, Cell.list l) ∈ σ) : LAt c σ a l := fun s R => by
 obtain ⟨o, e, vs, n, rfl, rv⟩ := R.cells _ h
 exact ⟨vs, n, e, rv⟩
theorem LAt.base {a : Addr} {l : List PV} {vs : List Value} {n : Nat} (h : c.β.mem a = some (seqObj "list" vs.toArray n)) (hv : VRs c.β l vs) : LAt c σ a l := fun s R =>
 ⟨vs, n, R.le _ _ h, hv.mono R.base⟩
structure Iters (c : Cx) (it : Addr) (l : List PV) (St : Nat -> Obj -> Prop) (need : Store -> Prop) : Prop where
 item : ∀ A s σ i p, AOk c A -> Rep c (σ ++ [(it, .that (St i))]) s -> need σ -> l[i]? = some p ->
  wpAny c.M A (pyNext (.ref it)) (fun r s' => ∃ v, r = some v /\ Out c (σ ++ [(it, .that (St i))]) s (σ ++ [(it, .that (St (i + 1)))]) s' /\ VR (vw c.F (σ ++ [(it, .that (St (i + 1)))]) s') p v) (fun _ _ => False) s
 stop : ∀ A s σ, AOk c A -> Rep c (σ ++ [(it, .that (St l.length))]) s -> need σ ->
  wpAny c.M A (pyNext (.ref it)) (fun r s' => r = none /\ Out c (σ ++ [(it, .that (St l.length))]) s σ s') (fun _ _ => False) s
 again : ∀ A s σ i Q, AOk c A -> Rep c (σ ++ [(it, .that (St i))]) s -> Q (.ref it) s -> wpAny c.M A (pyIter (.ref it)) Q (fun _ _ => False) s
 lets : ∀ A s σ i v es k pos Q, AOk c A -> Rep c (σ ++ [(it, .that (St i))]) s -> Q () s -> wpAny c.M A (letOwnedTupleGo (.Tuple es k pos) (.ref it) v) Q (fun _ _ => False) s
noncomputable def Itb (c : Cx) (p : PV) (σ : Store) (l : List PV) (need : Store -> Prop) : Prop := ∀ A s v, AOk c A -> Rep c σ s -> VR (vw c.F σ s) p v ->
 wpAny c.M A (pyIter v) (fun itv s' => ∃ it St, itv = .ref it /\ Out c σ s (σ ++ [(it, .that (St 0))]) s' /\ Iters (c.ext c.F (vw c.F (σ ++ [(it, .that (St 0))]) s')) it l St need) (fun _ _ => False) s
noncomputable def ListIt (a : Addr) (i : Nat) (o : Obj) : Prop := o.cls = .type "list_iterator" /\ o.data = .fields #[.ref a, .int i 0]
theorem Up.last {a : Addr} {x x' : Cell} : Up a x x' (σ ++ [(a, x)]) (σ ++ [(a, x')]) := Up.append σ .head
theorem Rep.isIter {it a : Addr} {i : Nat} (R : Rep c (σ ++ [(it, .that (ListIt a i))]) s) : s.heap.IsListIter it a i := by
 obtain ⟨o, e, h⟩ := R.cells (it, .that (ListIt a i)) (memR _ (.head _))
 exact ⟨o, e, h⟩
theorem seqObj_isList {h : Heap} {a : Addr} {vs : List Value} {n : Nat} (e : h.get? a = some (seqObj "list" vs.toArray n)) : h.IsList a vs.toArray := ⟨_, e, rfl, n, rfl⟩
theorem Iters.list {it a : Addr} {l : List PV} {need : Store -> Prop} (h : ∀ i σ, need σ -> LAt c (σ ++ [(it, .that (ListIt a i))]) a l) : Iters c it l (ListIt a) need where
 item := fun A s σ i p hA R hn hp => by
  obtain ⟨vs, n, e, rv⟩ := h i σ hn s R
  obtain ⟨v, ev, r⟩ := rv.get hp
  refine wpAny_pyNext_list_item R.isIter (seqObj_isList e) (by simpa using ev) fun h' hi hs => ?_
  obtain ⟨o, eo, hI⟩ := hi
  have out : Out c (σ ++ [(it, .that (ListIt a i))]) s (σ ++ [(it, .that (ListIt a (i + 1)))]) { s with heap := h', toks := s.toks } := R.upd (x' := .that (ListIt a (i + 1))) Up.last hs eo hI _ (Nat.le_refl _)
  exact ⟨v, rfl, out, r.mono out.view⟩
 stop := fun A s σ hA R hn => by
  obtain ⟨vs, n, e, rv⟩ := h l.length σ hn s R
  refine wpAny_pyNext_list_end hA.handled R.isIter (seqObj_isList e) (by simp [rv.length]) fun h' hs => ⟨rfl, ?_⟩
  exact R.grow (τ := [_]) (fun b o hb eo => hs b o (by simpa [addrs] using hb) eo) (Nat.le_refl _)
 again := fun A s σ i Q hA R q => wpAny_pyIter_listiter R.isIter q
 lets := fun A s σ i v es k pos Q hA R q => by
  cases v with
  | ref T => exact wpAny_letOwnedTupleGo_listiter R.isIter q
  | _ => exact wq q
theorem itb_at {a : Addr} {l : List PV} {need : Store -> Prop} {A : Around} (hA : AOk c A) (R : Rep c σ s) {vs : List Value} {n : Nat} (e : s.heap.get? a = some (seqObj "list" vs.toArray n))
  (h : ∀ (s' : Shared) it, Out c σ s (σ ++ [(it, .that (ListIt a 0))]) s' -> ∀ i σ', need σ' -> LAt (c.ext c.F (vw c.F (σ ++ [(it, .that (ListIt a 0))]) s')) (σ' ++ [(it, .that (ListIt a i))]) a l) :
  wpAny c.M A (pyIter (.ref a)) (fun itv s' => ∃ it St, itv = .ref it /\ Out c σ s (σ ++ [(it, .that (St 0))]) s' /\ Iters (c.ext c.F (vw c.F (σ ++ [(it, .that (St 0))]) s')) it l St need) (fun _ _ => False) s := by
 refine wpAny_pyIter_list (seqObj_isList e) ?_
 have out := (R.push_cell { cls := .type "list_iterator", data := .fields #[.ref a, .int 0 0] } (.that (ListIt a 0)) ⟨rfl, rfl⟩).perm_r (σ₂ := σ ++ [(s.heap.objs.size, .that (ListIt a 0))]) (by
  have := List.perm_append_comm (l₁ := [(s.heap.objs.size, Cell.that (ListIt a 0))]) (l₂ := σ)
  exact this.symm)
 exact ⟨s.heap.objs.size, ListIt a, rfl, out, .list (h _ _ out)⟩
theorem Itb.list {a : Addr} {l : List PV} (h : (a, Cell.list l) ∈ σ) : Itb c (.raw (.ref a)) σ l (fun σ' => (a, Cell.list l) ∈ σ') := fun A s v hA R hv => by
 have := hv.inv_raw
 subst this
 obtain ⟨vs, n, e, _⟩ := LAt.cell h s R
 exact itb_at hA R e fun s' it out i σ' hn => .cell (memL _ hn)
theorem Itb.lst {l : List PV} : Itb c (.lst l) σ l (fun _ => True) := fun A s v hA R hv => by
 obtain ⟨a, vs, n, rfl, e, rv⟩ := hv.inv_lst
 exact itb_at hA R (vw_some.mp e).2.2 fun s' it out i σ' hn => .base (out.view.mem _ _ e) (rv.mono out.view)
theorem Rep.ext {β : View} (R : Rep c σ s) (h : VLe β (vw c.F σ s)) : Rep (c.ext c.F β) σ s := ⟨R.nodup, R.disj, R.old, R.sys, R.big, h, R.cells⟩
theorem Out.unext {β : View} {σ' : Store} {s' : Shared} (R : Rep c σ s) (o : Out (c.ext c.F β) σ s σ' s') : Out c σ s σ' s' := ⟨o.same, ⟨o.rep.nodup, o.rep.disj, o.rep.old, o.rep.sys, o.rep.big, R.base.trans o.view, o.rep.cells⟩, o.view, o.kept⟩
theorem W.fr {α : Type} {t : Sem α} {Q : α -> View -> Store -> Prop} (h : ∀ V, W (c.ext (c.F ++ addrs τ) c.β) t V σ Q) (V : View) : W c t V (σ ++ τ) (fun a V' σ'' => ∃ σ', σ'' = σ' ++ τ /\ Q a V' σ') := fun A s hA R hV =>
 W.frame (β := c.β) (V := vw c.F (σ ++ τ) s) R.base (h _) A s hA R (.refl _)
noncomputable def LetsOk (target : PySem.Expr) : Prop := (∀ it v, letOwnedTupleGo target it v = pure ()) \/ ∃ es k pos, target = .Tuple es k pos
theorem LetsOk.run {target : PySem.Expr} (h : LetsOk target) {it : Addr} {l : List PV} {St : Nat -> Obj -> Prop} {need : Store -> Prop} (I : Iters c it l St need) {A : Around} {i : Nat} {v : Value} {Q : Unit -> Shared -> Prop} (hA : AOk c A)
  (R : Rep c (σ ++ [(it, .that (St i))]) s) (q : Q () s) : wpAny c.M A (letOwnedTupleGo target (.ref it) v) Q (fun _ _ => False) s := by
 rcases h with h | ⟨es, k, pos, rfl⟩
 ·rw [h]; exact wq q
 ·exact I.lets A s σ i v es k pos Q hA R q
variable {env : Env} {Q : PV -> Store -> Prop} {N : Store -> Prop} {R : PV -> Store -> Prop}
inductive Kfo (c : Cx) (env : Env) (target : PySem.Expr) (body : List Stmt) (N : Store -> Prop) (R : PV -> Store -> Prop) (p : PV) (σ : Store) : Prop
 | mk (l : List PV) (need : Store -> Prop) (Inv : Nat -> Store -> Prop) (h : Itb c p σ l need) (z : Inv 0 σ) (n : ∀ i σ', Inv i σ' -> need σ')
   (s : ∀ F β, VLe c.β β -> ∀ i q σ', l[i]? = some q -> Inv i σ' -> Asg (c.ext F β) env target q σ' (Kxs (c.ext F β) env body (Inv (i + 1)) R)) (e : ∀ σ', Inv l.length σ' -> N σ') : Kfo c env target body N R p σ
theorem X.for {target iter : PySem.Expr} {body : List Stmt} {pos : Pos}
  (h : E c env iter σ (Kfo c env target body N R))
  (ht : autoParam (LetsOk target) aLet) (hs : autoParam (∀ x, foldedSetIterable iter env x = pure x) aIr) :
  X c env (.For target iter body [] pos) σ N R := fun V A s hA Rp hV => by
 refine wpAny_For (W.onr (h V) hA Rp hV (fun v s1 σ1 o1 p rp hq1 => ?_)) hs
 obtain ⟨l, need, Inv, hit, h0, hneed, hbody, hend⟩ := hq1
 refine wpAny_mono (hit A s1 v hA o1.rep rp) (fun itv s2 hq2 => ?_) fun _ _ e => e.elim
 obtain ⟨it, St, e, o2, I⟩ := hq2
 subst e
 refine codeAny_forLoop_any (fun n s' => ∃ i σ', n = l.length + 1 - i /\ i <= l.length /\ Inv i σ' /\ Out c (σ1 ++ [(it, .that (St 0))]) s2 (σ' ++ [(it, .that (St i))]) s') ?_ (l.length + 1) ⟨0, σ1, rfl, Nat.zero_le _, h0, .refl o2.rep⟩
 rintro n s' ⟨i, σ', rfl, hi, hI, o⟩
 have R' := o.rep.ext (β := vw c.F (σ1 ++ [(it, .that (St 0))]) s2) o.view
 by_cases hlt : i < l.length
 ·have hq : l[i]? = some l[i] := List.getElem?_eq_getElem hlt
  generalize l[i] = q at hq
  refine wpAny_mono (I.item A s' σ' i q ⟨hA.handled, hA.depth, hA.units⟩ R' (hneed _ _ hI) hq) (fun r s3 hq3 => ?_) fun _ _ e => e.elim
  obtain ⟨v, er, o3, rv⟩ := hq3
  subst er
  have o3' := o3.unext o.rep
  refine LetsOk.run ht I (A := A) (i := i + 1) (σ := σ') ⟨hA.handled, hA.depth, hA.units⟩ o3.rep ?_ |> fun hl => wpAny_mono hl (fun _ _ q => q) fun _ _ e => e.elim
  have vb : VLe c.β (vw c.F (σ' ++ [(it, .that (St (i + 1)))]) s3) := o3'.rep.base
  have asg := W.frame (τ := [(it, .that (St (i + 1)))]) (.refl _) (hbody (c.F ++ addrs [(it, Cell.that (St (i + 1)))]) _ vb i q σ' hq hI _ v rv)
  refine W.on asg hA o3'.rep (.refl _) (fun _ s4 σ4 o4 hq4 => ?_)
  obtain ⟨σ5, e4, hx⟩ := hq4
  subst e4
  have bod := W.frame (V := vw c.F (σ5 ++ [(it, .that (St (i + 1)))]) s4) (τ := [(it, .that (St (i + 1)))]) (β := vw c.F (σ' ++ [(it, .that (St (i + 1)))]) s3) o4.view (hx _)
  refine W.on bod hA o4.rep (.refl _) (fun f s5 σ6 o5 hq5 => ?_)
  obtain ⟨σ7, e5, hf⟩ := hq5
  subst e5
  have oo := ((o.trans o3').trans o4).trans o5
  cases f with
  | next => exact ⟨l.length + 1 - (i + 1), Nat.sub_lt_sub_left (Nat.lt_succ_of_lt hlt) (Nat.lt_succ_self i), i + 1, σ7, rfl, hlt, hf, oo⟩
  | ret w =>
   obtain ⟨pv, rpv, hr⟩ := hf
   have od := Out.sub (σ' := σ7) oo.rep (fun p hp => memL _ hp) (by
    have := oo.rep.nodup
    rw [addrs, List.map_append] at this
    exact (List.nodup_append.mp this).1)
   exact ⟨σ7, ((o1.trans o2).trans oo).trans od, pv, rpv.mono od.view, hr⟩
  | brk => exact hf.elim
  | cont => exact hf.elim
 ·have he : i = l.length := Nat.le_antisymm hi (Nat.le_of_not_lt hlt)
  subst he
  refine wpAny_mono (I.stop A s' σ' ⟨hA.handled, hA.depth, hA.units⟩ R' (hneed _ _ hI)) (fun r s3 hq6 => ?_) fun _ _ e => e.elim
  obtain ⟨er, o3⟩ := hq6
  subst er
  refine wpAny_execs_nil ⟨σ', ?_, hend _ hI⟩
  exact ((o1.trans o2).trans o).trans (o3.unext o.rep)
theorem Asg.name {ns : List Str} {vs vs' : List (Option PV)} {L : Addr} {x : Str} {pos : Pos} {p : PV} {τ : Store} (hL : Lo env ns) (hl : env.locals = L) (hs : Su x p ns vs vs') (h : N ((L, .loc ns vs') :: τ)) :
  Asg c env (.Name x pos) p ((L, .loc ns vs) :: τ) N := fun V v hv A s hA Rp hV =>
 wpAny_assign_Name (W.su (c := c) (Q := fun _ _ σ' => N σ') hL hl hv hs (fun _ _ => h) A s hA Rp hV)
theorem Asg.genK {c' : Cx} {t : PySem.Expr} {p : PV} {b : List Stmt} (h : ∀ N' : Store -> Prop, (∀ σ', N σ' -> N' σ') -> Asg c env t p σ (Kxs c' env b N' R)) : Asg c env t p σ (Kxs c' env b N R) := h N fun _ h => h
noncomputable def Asgs (c : Cx) (env : Env) : List PySem.Expr -> List PV -> Store -> (Store -> Prop) -> Prop
 | [], [], σ, N => N σ
 | t :: ts, p :: ps, σ, N => Asg c env t p σ (fun σ' => Asgs c env ts ps σ' N)
 | _, _, _, _ => False
theorem asgs_run {A : Around} (hA : AOk c A) (ts : List PySem.Expr) : ∀ (ps : List PV) (vs : List Value) (σ : Store) (s : Shared) (N : Store -> Prop), (assignEach ts env).map (·.2) = ts.map (fun t => assign t env) -> Asgs c env ts ps σ N -> Rep c σ s -> VRs (vw c.F σ s) ps vs ->
  wpAny c.M A (assignInOrder (ts.map fun t => assign t env) vs) (fun _ s' => ∃ σ', Out c σ s σ' s' /\ N σ') (fun _ _ => False) s := by
 induction ts with
 | nil =>
  intro ps vs σ s N _ h R hv
  cases ps with
  | nil => rw [hv.inv_nil]; exact wq ⟨σ, .refl R, h⟩
  | cons => exact h.elim
 | cons t ts ih =>
  intro ps vs σ s N he h R hv
  cases ps with
  | nil => exact h.elim
  | cons p ps =>
   obtain ⟨v, vs', rfl, r, hv'⟩ := hv.inv_cons
   have e0 : ∃ x, (assignEach (t :: ts) env).map (·.2) = x :: (assignEach ts env).map (·.2) := by cases t <;> exact ⟨_, rfl⟩
   obtain ⟨x, e0⟩ := e0
   refine wb (wpAny_holding (W.on (h (vw c.F σ s) v r) hA R (.refl _) (fun _ s1 σ1 o1 h1 => ?_)))
   exact wm (ih ps vs' σ1 s1 N (List.cons.inj (e0.symm.trans he)).2 h1 o1.rep (hv'.mono o1.view)) (fun _ s2 h => h.elim fun σ₂ h => ⟨σ₂, o1.trans h.1, h.2⟩)
theorem Asg.tuple {es : List PySem.Expr} {k : Nat} {pos : Pos} {ps : List PV} (h : Asgs c env es ps σ N) (hl : es.length = ps.length)
  (he : autoParam ((assignEach es env).map (·.2) = es.map (fun t => assign t env)) aRfl) (hi : autoParam ((assignEach es env).findIdx? (·.1) = none) aRfl) :
  Asg c env (.Tuple es k pos) (.tup ps) σ N := fun V v hv A s hA Rp hV => by
 obtain ⟨a, vs, n, rfl, e, rv⟩ := hv.inv_tup
 have e' := (vw_some.mp (hV.mem _ _ e)).2.2
 have hlen : (assignEach es env).length = es.length := by
  have := congrArg List.length he
  simpa using this
 refine wpAny_assign_Tuple hA.handled ⟨_, e', rfl, n, rfl⟩ (by rw [hlen, List.size_toArray, rv.length, hl]) hi fun h' hk => ?_
 have o := Rp.more (h' := h') (tk := s.toks) (fun b y eb => hk b y (fun q => Nat.lt_irrefl _ (q ▸ get_lt eb)) eb) (Nat.le_refl _)
 rw [he]
 exact wm (asgs_run hA es ps vs σ _ N he h o.rep (rv.mono (hV.trans o.view))) (fun _ s2 h => h.elim fun σ₂ h => ⟨σ₂, o.trans h.1, h.2⟩)
theorem Asg.fr {target : PySem.Expr} {p : PV} (h : Asg (c.ext (c.F ++ addrs τ) c.β) env target p σ N) : Asg c env target p (σ ++ τ) (fun σ'' => ∃ σ', σ'' = σ' ++ τ /\ N σ') := fun V v hv A s hA Rp hV =>
 W.frame (β := c.β) (V := vw c.F (σ ++ τ) s) Rp.base (h _ v (hv.mono hV)) A s hA Rp (.refl _)
theorem E.fr {e : PySem.Expr} (h : E (c.ext (c.F ++ addrs τ) c.β) env e σ Q) : E c env e (σ ++ τ) (fun p σ'' => ∃ σ', σ'' = σ' ++ τ /\ Q p σ') := fun V =>
 (W.fr h V).mono fun _ _ _ _ ⟨σ', e, p, r, q⟩ => ⟨p, r, σ', e, q⟩
theorem Asg.mono {target : PySem.Expr} {p : PV} {N' : Store -> Prop} (h : Asg c env target p σ N) (k : ∀ σ', N σ' -> N' σ') : Asg c env target p σ N' := fun V v hv => (h V v hv).mono fun _ _ _ _ q => k _ q
theorem X.asgT {es : List PySem.Expr} {k : Nat} {e : PySem.Expr} {tpos pos : Pos} (h : E c env e σ (fun p σ1 => Asg c env (.Tuple es k tpos) p σ1 N))
  (hs : autoParam (swapsWithSole [.Tuple es k tpos] e pos.line env = pure false) aRfl) (hw : autoParam (swappedStores [.Tuple es k tpos] e env = pure Option.none) aRfl) : X c env (.Assign [.Tuple es k tpos] e pos) σ N R := fun V A s hA Rp hV =>
 Assign_Tuple (W.onr (h V) hA Rp hV (fun v s1 σ1 o1 p rp q =>
  W.on (q _ v rp) hA o1.rep (.refl _) (fun _ s2 σ₂ o2 q2 => ⟨σ₂, o1.trans o2, q2⟩))) hs hw
noncomputable def Binds (c : Cx) (env : Env) : List Str -> List PV -> Store -> (Store -> Prop) -> Prop
 | [], [], σ, N => N σ
 | x :: xs, p :: ps, σ, N => ∀ V v, VR V p v -> W c (storeName env x v) V σ (fun _ _ σ' => Binds c env xs ps σ' N)
 | _, _, _, _ => False
theorem binds_run {A : Around} (hA : AOk c A) (xs : List Str) : ∀ (ps : List PV) (vs : List Value) (σ : Store) (s : Shared) (N : Store -> Prop), Binds c env xs ps σ N -> Rep c σ s -> VRs (vw c.F σ s) ps vs ->
  wpAny c.M A (assignInOrder (xs.map fun x => bindName env x) vs) (fun _ s' => ∃ σ', Out c σ s σ' s' /\ N σ') (fun _ _ => False) s := by
 induction xs with
 | nil =>
  intro ps vs σ s N h R hv
  cases ps with
  | nil => rw [hv.inv_nil]; exact wq ⟨σ, .refl R, h⟩
  | cons => exact h.elim
 | cons t ts ih =>
  intro ps vs σ s N h R hv
  cases ps with
  | nil => exact h.elim
  | cons p ps =>
   obtain ⟨v, vs', rfl, r, hv'⟩ := hv.inv_cons
   refine wb (wpAny_holding (bindName_ (W.on (h (vw c.F σ s) v r) hA R (.refl _) (fun _ s1 σ1 o1 h1 => ?_))))
   exact wm (ih ps vs' σ1 s1 N h1 o1.rep (hv'.mono o1.view)) (fun _ s2 h => h.elim fun σ₂ h => ⟨σ₂, o1.trans h.1, h.2⟩)
theorem Rp_more (Rp : Rep c σ s) (h' : Heap) (hk : Heap.ExtBut s.heap.objs.size s.heap h') : Out c σ s σ { s with heap := h' } :=
 Rep.more (tk := s.toks) Rp (fun b y eb => hk b y (fun q => Nat.lt_irrefl _ (q ▸ get_lt eb)) eb) (Nat.le_refl _)
theorem X.asgTs {es : List PySem.Expr} {k : Nat} {e : PySem.Expr} {tpos pos : Pos} {names : List Str} (h : E c env e σ (fun p σ1 => ∃ ps, p = .tup ps /\ names.length = ps.length /\ Binds c env names.reverse ps.reverse σ1 N))
  (hw : autoParam (swappedStores [.Tuple es k tpos] e env = pure (some names)) aRfl) (hs : autoParam (swapsWithSole [.Tuple es k tpos] e pos.line env = pure false) aRfl) : X c env (.Assign [.Tuple es k tpos] e pos) σ N R := fun V A s hA Rp hV =>
 Assign_Tuple_swapped (W.onr (h V) hA Rp hV (fun v s1 σ1 o1 p rp hq13 => by
  obtain ⟨ps, ep, hl, q⟩ := hq13
  subst ep
  obtain ⟨a, vs, n, rfl, e, rv⟩ := rp.inv_tup
  have e' := (vw_some.mp e).2.2
  have hsz : names.length = vs.toArray.size := by rw [List.size_toArray, rv.length, hl]
  rw [hsz]
  refine wpAny_unpackItems_tuple hA.handled ⟨_, e', rfl, n, rfl⟩ fun h' hk => ?_
  have o := Rp_more o1.rep h' hk
  refine wm (binds_run hA names.reverse ps.reverse vs.reverse σ1 _ N q o.rep (rv.reverse.mono o.view)) (fun _ s2 h => h.elim fun σ₂ h => ⟨σ₂, (o1.trans o).trans h.1, h.2⟩))) hs hw
end
section
variable {c : Cx} {env : Env} {σ : Store} {Q : PV -> Store -> Prop} {N : Store -> Prop} {R : PV -> Store -> Prop}
theorem Ca.append {a : Addr} {l : List PV} {p : PV} {σ' : Store} (U : Up a (.list l) (.list (l ++ [p])) σ σ') (hl : l.length <= sizeLine) (h : Q .none σ') : Ca c (.builtin "list.append") [.raw (.ref a), p] σ Q := fun V vs hv A s hA Rp hV => by
 obtain ⟨v, _, rfl, r, hv1⟩ := hv.inv_cons
 obtain ⟨w, _, rfl, rw', hv2⟩ := hv1.inv_cons
 have := r.inv_raw
 subst this
 have e0 := hv2.inv_nil
 subst e0
 obtain ⟨o, e, vs, n, rfl, rv⟩ := Rp.cells _ U.mem
 refine call_meets F.slot_list_append ⟨_, e, rfl⟩ F.entry_list_append (args_list_append _ _) (list_append a vs.toArray n w (by rw [List.size_toArray, rv.length]; exact hl)) ⟨e, ?_⟩
 have e2 := IsL.update (h := s.heap) e (fun x => x.push w)
 rw [show vs.toArray.push w = (vs ++ [w]).toArray by simp] at e2
 have out := Rp.upd (x' := .list (l ++ [p])) U (Heap.SameBut.update s.heap a (Obj.mapSeq fun x => x.push w)) e2 ⟨vs ++ [w], _, rfl, (rv.append (.cons (rw'.mono hV) .nil))⟩ s.toks (Nat.le_refl _)
 exact ⟨σ', out, .none, .none, h⟩
theorem Ca.pop {a : Addr} {l : List PV} {p : PV} {σ' : Store} (U : Up a (.list (l ++ [p])) (.list l) σ σ') (hl : l.length < sizeLine) (h : Q p σ') : Ca c (.builtin "list.pop") [.raw (.ref a)] σ Q := fun V vs hv A s hA Rp hV => by
 obtain ⟨v, _, rfl, r, hv1⟩ := hv.inv_cons
 have := r.inv_raw
 subst this
 have e0 := hv1.inv_nil
 subst e0
 obtain ⟨o, e, vs, n, rfl, rv⟩ := Rp.cells _ U.mem
 obtain ⟨us, ws, rfl, ru, rw'⟩ := rv.split
 obtain ⟨w, _, rfl, rw'', hv'⟩ := rw'.inv_cons
 rw [hv'.inv_nil] at e
 have hsz : (us ++ [w]).toArray.size = us.length + 1 := by simp
 refine call_meets F.slot_list_pop ⟨_, e, rfl⟩ F.entry_list_pop (F.args_list_pop_1 _) (PySem.MeetsSeq.list_pop_last a (us ++ [w]).toArray n w (by rw [hsz]; simp) (by rw [hsz, ru.length]; exact hl)) ⟨e, ?_⟩
 have e2 := IsL.update (h := s.heap) e (fun xs => xs.eraseIdxIfInBounds ((us ++ [w]).toArray.size - 1))
 rw [show (us ++ [w]).toArray.eraseIdxIfInBounds ((us ++ [w]).toArray.size - 1) = us.toArray by rw [hsz]; simp [Array.eraseIdxIfInBounds, List.eraseIdx_append_of_length_le]] at e2
 have out := Rp.upd (x' := .list l) U (Heap.SameBut.update s.heap a (Obj.mapSeq fun xs => xs.eraseIdxIfInBounds ((us ++ [w]).toArray.size - 1))) e2 ⟨us, _, rfl, ru⟩ s.toks (Nat.le_refl _)
 exact ⟨σ', out, p, rw''.mono out.view, h⟩
theorem Gm.append {a : Addr} {l : List PV} {pl : Sem Bool} {K : Value -> List PV -> Store -> Prop} (hm : (a, Cell.list l) ∈ σ) (h : K (.builtin "list.append") [.raw (.ref a)] σ) : Gm c (.raw (.ref a)) "append" pl σ K :=
 Gm.builtin (HasT.list hm) F.plainAttrs_list F.slot_list_append F.type_list_append h
theorem Gm.pop {a : Addr} {l : List PV} {pl : Sem Bool} {K : Value -> List PV -> Store -> Prop} (hm : (a, Cell.list l) ∈ σ) (h : K (.builtin "list.pop") [.raw (.ref a)] σ) : Gm c (.raw (.ref a)) "pop" pl σ K :=
 Gm.builtin (HasT.list hm) F.plainAttrs_list F.slot_list_pop F.type_list_pop h
inductive Ktu (Q : PV -> Store -> Prop) (ps : List PV) (σ : Store) : Prop
 | mk (l : ps.length <= sizeLine) (q : Q (.tup ps) σ) : Ktu Q ps σ
inductive Kls (Q : PV -> Store -> Prop) (ps : List PV) (σ : Store) : Prop
 | mk (l : ps.length <= sizeLine) (q : Q (.lst ps) σ) : Kls Q ps σ
inductive Kli (Q : PV -> Store -> Prop) (ps : List PV) (σ : Store) : Prop
 | mk (l : ps.length <= sizeLine) (p : Addr × Cell) (τ : Store) (e : σ = p :: τ) (q : ∀ a, Q (.raw (.ref a)) (p :: (a, .list ps) :: τ)) : Kli Q ps σ
theorem E.tuple {es : List PySem.Expr} {k : Nat} {pos : Pos} (h : Es c env es pos σ (Ktu Q)) : E c env (.Tuple es k pos) σ Q := fun V A s hA Rp hV =>
 wpAny_Tuple (W.ons (h V) hA Rp hV (fun vs s1 σ1 o1 ps rps hq1 => by
  obtain ⟨hl, q⟩ := hq1
  refine ⟨by rw [rps.length]; exact hl, ?_⟩
  obtain ⟨o2, e2⟩ := o1.rep.push_frz { cls := .type "tuple", data := .seq vs.toArray }
  exact ⟨σ1, o1.trans o2, .tup ps, .tup e2 (rps.mono o2.view), q⟩))
theorem E.lst {es : List PySem.Expr} {pos : Pos} (h : Es c env es pos σ (Kls Q)) : E c env (.List es pos) σ Q := fun V A s hA Rp hV =>
 wpAny_List (W.ons (h V) hA Rp hV (fun vs s1 σ1 o1 ps rps hq2 => by
  obtain ⟨hl, q⟩ := hq2
  refine ⟨by rw [rps.length]; exact hl, ?_⟩
  obtain ⟨o2, e2⟩ := o1.rep.push_frz { cls := .type "list", data := .seq vs.toArray }
  exact ⟨σ1, o1.trans o2, .lst ps, .lst e2 (rps.mono o2.view), q⟩))
theorem E.list {es : List PySem.Expr} {pos : Pos} (h : Es c env es pos σ (Kli Q)) : E c env (.List es pos) σ Q := fun V A s hA Rp hV =>
 wpAny_List (W.ons (h V) hA Rp hV (fun vs s1 σ1 o1 ps rps hq3 => by
  obtain ⟨hl, p, τ, e, q⟩ := hq3
  subst e
  refine ⟨by rw [rps.length]; exact hl, ?_⟩
  have o2 := o1.rep.newAt { cls := .type "list", data := .seq vs.toArray } (.list ps) ⟨vs, 0, rfl, rps⟩
  exact ⟨_, o1.trans o2, .raw _, .raw _, q _⟩))
end
section
variable {c : Cx} {env : Env} {σ : Store} {s : Shared} {Q : PV -> Store -> Prop} {N : Store -> Prop}
noncomputable def tests (ifs : List PySem.Expr) (env : Env) : Sem Bool := forIn ifs true fun c r => if r = true then do let ok <- isTrue c env (eval c env); pure (ForInStep.yield ok) else pure (ForInStep.yield r)
theorem tests_nil {V : View} {Q : Bool -> View -> Store -> Prop} (h : ∀ V', VLe V V' -> Q true V' σ) : W c (tests [] env) V σ Q := W.pure h
theorem tests_one {t : PySem.Expr} {Q : Bool -> Store -> Prop} (h : T c env t σ Q) (V : View) : W c (tests [t] env) V σ (fun b _ σ' => Q b σ') := fun A s hA R hV => wpAny_tests_one (h V A s hA R hV)
theorem compLoop_run {e target : PySem.Expr} {k : Nat} {it : Addr} {acc : Value} {cenv : Env} {p0 : Pos} {tst : Sem Bool} {inner : Sem Unit} {l : List PV} {St : Nat -> Obj -> Prop} {need : Store -> Prop} {Inv : Nat -> Store -> Prop} {A : Around} {β : View}
  (turnEq : compTurn e k (.ref it) acc cenv = (do
   standAt p0
   match <- pyNext (.ref it) with
   | none => pure (.done .next)
   | some v =>
    letOwnedTupleGo target (.ref it) v
    assign target cenv v
    let ok <- tst
    if ok then inner
    PySem.again (.compLoop e k (.ref it) acc cenv)))
  (hq : (Code.compLoop e k (.ref it) acc cenv).quiet = true) (hden : c.M.den (Code.compLoop e k (.ref it) acc cenv) = (compTurn e k (.ref it) acc cenv).onRaise (fun x => do noteFrame x cenv; theTreesLotGoes x)) (hund : A.under (Code.compLoop e k (.ref it) acc cenv) = A)
  (ht : LetsOk target) (I : Iters (c.ext c.F β) it l St need) (hneed : ∀ i σ', Inv i σ' -> need σ') (h0 : Inv 0 σ)
  (hbody : ∀ F β', VLe c.β β' -> ∀ i q σ', l[i]? = some q -> Inv i σ' -> Asg (c.ext F β') cenv target q σ' (fun σ₂ => ∀ V, W (c.ext F β') tst V σ₂ (fun b _ σ3 => if b = true then (∀ V, W (c.ext F β') inner V σ3 (fun _ _ σ4 => Inv (i + 1) σ4)) else Inv (i + 1) σ3)))
  (hA : AOk c A) (R : Rep c (σ ++ [(it, .that (St 0))]) s) (hβ : VLe β (vw c.F (σ ++ [(it, .that (St 0))]) s)) :
  codeAny c.M A (.compLoop e k (.ref it) acc cenv) (fun r s' => r = .ok .next /\ ∃ σ', Out c (σ ++ [(it, .that (St 0))]) s σ' s' /\ Inv l.length σ') s := by
 refine codeAny_loop hq (fun n s' => ∃ i σ', n = l.length + 1 - i /\ i <= l.length /\ Inv i σ' /\ Out c (σ ++ [(it, .that (St 0))]) s (σ' ++ [(it, .that (St i))]) s') ?_ (l.length + 1) ⟨0, σ, rfl, Nat.zero_le _, h0, .refl R⟩
 rintro n s' ⟨i, σ', rfl, hi, hI, o⟩
 rw [hden, hund]
 refine wpAny_noted ?_
 rw [turnEq]
 have R' := o.rep.ext (β := β) (hβ.trans o.view)
 refine wb (wpAny_standAt (wb ?_))
 by_cases hlt : i < l.length
 ·have hq : l[i]? = some l[i] := List.getElem?_eq_getElem hlt
  generalize l[i] = q at hq
  refine wpAny_mono (I.item A s' σ' i q ⟨hA.handled, hA.depth, hA.units⟩ R' (hneed _ _ hI) hq) (fun r s3 hq1 => ?_) fun _ _ e => e.elim
  obtain ⟨v, er, o3, rv⟩ := hq1
  subst er
  have o3' := o3.unext o.rep
  refine wb (LetsOk.run ht I (A := A) (i := i + 1) (σ := σ') ⟨hA.handled, hA.depth, hA.units⟩ o3.rep ?_ |> fun hl => wpAny_mono hl (fun _ _ q => q) fun _ _ e => e.elim)
  have vb : VLe c.β (vw c.F (σ' ++ [(it, .that (St (i + 1)))]) s3) := o3'.rep.base
  have asg := W.frame (τ := [(it, .that (St (i + 1)))]) (.refl _) (hbody (c.F ++ addrs [(it, Cell.that (St (i + 1)))]) _ vb i q σ' hq hI _ v rv)
  refine wb (W.on asg hA o3'.rep (.refl _) (fun _ s4 σ4 o4 hq2 => ?_))
  obtain ⟨σ5, e4, hx⟩ := hq2
  subst e4
  have tt := W.frame (V := vw c.F (σ5 ++ [(it, .that (St (i + 1)))]) s4) (τ := [(it, .that (St (i + 1)))]) (β := vw c.F (σ' ++ [(it, .that (St (i + 1)))]) s3) o4.view (hx _)
  refine wb (W.on tt hA o4.rep (.refl _) (fun b s5 σ6 o5 hq3 => ?_))
  obtain ⟨σ7, e5, hf⟩ := hq3
  subst e5
  have oo := ((o.trans o3').trans o4).trans o5
  cases b with
  | false => exact wq ⟨rfl, l.length + 1 - (i + 1), Nat.sub_lt_sub_left (Nat.lt_succ_of_lt hlt) (Nat.lt_succ_self i), i + 1, σ7, rfl, hlt, hf, oo⟩
  | true =>
   have ii := W.frame (V := vw c.F (σ7 ++ [(it, .that (St (i + 1)))]) s5) (τ := [(it, .that (St (i + 1)))]) (β := vw c.F (σ' ++ [(it, .that (St (i + 1)))]) s3) (o4.view.trans o5.view) (hf _)
   refine wb (W.on ii hA o5.rep (.refl _) (fun _ s6 σ8 o6 hq4 => ?_))
   obtain ⟨σ9, e6, hg⟩ := hq4
   subst e6
   exact wq ⟨rfl, l.length + 1 - (i + 1), Nat.sub_lt_sub_left (Nat.lt_succ_of_lt hlt) (Nat.lt_succ_self i), i + 1, σ9, rfl, hlt, hg, oo.trans o6⟩
 ·have he : i = l.length := Nat.le_antisymm hi (Nat.le_of_not_lt hlt)
  subst he
  refine wpAny_mono (I.stop A s' σ' ⟨hA.handled, hA.depth, hA.units⟩ R' (hneed _ _ hI)) (fun r s3 hq5 => ?_) fun _ _ e => e.elim
  obtain ⟨er, o3⟩ := hq5
  subst er
  exact wq ⟨rfl, σ', o.trans (o3.unext o.rep), hI⟩
theorem compStart_run {e target iter : PySem.Expr} {k : Nat} {it : Addr} {acc : Value} {cenv : Env} {ifs : List PySem.Expr} {l : List PV} {St : Nat -> Obj -> Prop} {need : Store -> Prop} {A : Around} {β : View} {R : Result -> Shared -> Prop}
  (hcl : (clausesOf e)[k]? = some ⟨target, iter, ifs, 0⟩) (hden : c.M.den (Code.compStart e k (.ref it) acc cenv) = (compStart e k (.ref it) acc cenv).onRaise (fun x => do noteFrame x cenv; standAt theWindowsPlace)) (hund : A.under (Code.compStart e k (.ref it) acc cenv) = A)
  (I : Iters (c.ext c.F β) it l St need) (hA : AOk c A) (R' : Rep c (σ ++ [(it, .that (St 0))]) s) (hβ : VLe β (vw c.F (σ ++ [(it, .that (St 0))]) s))
  (hq : (Code.compLoop e k (.ref it) acc cenv).quiet = true)
  (h : codeAny c.M A (.compLoop e k (.ref it) acc cenv) R s) : codeAny c.M A (.compStart e k (.ref it) acc cenv) R s := by
 refine codeAny_of_tree ?_
 rw [hden, hund]
 refine wpAny_notedAt ?_
 unfold compStart
 rw [hcl]
 show wpAny _ A (ask >>= _) _ _ s
 refine wb (wpAny_askSetting (wpAny_ite ?_))
 split
 ·first
   | exact wb (wq (wq (And.intro hq h)))
   | exact wq (And.intro hq h)
 ·have hp := I.again A s σ 0 (fun itv s' => itv = .ref it /\ s' = s) ⟨hA.handled, hA.depth, hA.units⟩ (R'.ext hβ) ⟨rfl, rfl⟩
  refine wb (wpAny_rule ?_)
  show wpAny _ _ (standAt iter.pos >>= _) _ _ s
  refine wb (wpAny_standAt (wb (wpAny_mono hp (fun itv s' hq6 => ?_) fun _ _ e => e.elim)))
  obtain ⟨e1, e2⟩ := hq6
  subst e1 e2
  exact wq ⟨hq, h⟩
end
section
variable {c : Cx} {env : Env} {σ : Store} {s : Shared} {Q : PV -> Store -> Prop} {N : Store -> Prop} {R : PV -> Store -> Prop}
theorem Rep.newLoc {h' : Heap} {tk : Nat} {m : Str -> Option Value} {ns : List Str} {vs : List (Option PV)} (Rp : Rep c σ s) (hk : ∀ b o, s.heap.get? b = some o -> h'.get? b = some o) (hn : h'.Ns s.heap.objs.size m) (ht : s.toks <= tk) (hvs : ∀ (i : Nat) p, vs[i]? ≠ some (some p)) :
  Out c σ s ((s.heap.objs.size, .loc ns vs) :: σ) { s with heap := h', toks := tk } := by
 obtain ⟨oL, es, ep, hL, hLd, hLk, hLf⟩ := hn
 have kv : VLe (vw c.F σ s) (vw c.F ((s.heap.objs.size, Cell.loc ns vs) :: σ) { s with heap := h', toks := tk }) := ⟨fun a o e => by
  obtain ⟨e1, e2, e3⟩ := vw_some.mp e
  refine vw_some.mpr ⟨e1, fun q => ?_, hk a o e3⟩
  rcases List.mem_cons.mp q with q | q
  ·exact Nat.lt_irrefl _ (q ▸ get_lt e3)
  ·exact e2 q, ht⟩
 refine ⟨⟨rfl, rfl⟩, ⟨?_, ?_, ?_, ?_, big_mono kv Rp.big, Rp.base.trans kv, ?_⟩, kv, fun a ha o e => hk a o e⟩
 ·exact List.nodup_cons.mpr ⟨fun q => Nat.lt_irrefl _ (Rp.lt q), Rp.nodup⟩
 ·intro a ha
  rcases List.mem_cons.mp ha with rfl | ha
  ·exact fun q => Nat.lt_irrefl _ (Rp.ltF q)
  ·exact Rp.disj a ha
 ·intro a ha
  exact let ⟨x, e⟩ := Rp.old a ha; ⟨x, hk _ _ e⟩
 ·intro q
  rcases List.mem_cons.mp q with q | q
  ·exact Nat.lt_irrefl _ (q ▸ Rp.sz)
  ·exact Rp.sys q
 ·intro p hp
  rcases List.mem_cons.mp hp with rfl | hp
  ·exact ⟨oL, hL, es, ep, hLd, hLk, fun i x p _ e => absurd e (hvs i p)⟩
  ·obtain ⟨o, e, r⟩ := Rp.cells p hp
   exact ⟨o, hk _ _ e, r.mono kv⟩
structure CompOk (env : Env) (scope : Scope) (cl : List (Str × Addr)) (ns : List Str) : Prop where
 clos : closureFor scope env = pure cl
 cell : ∀ x ∈ scope.names, x.2 ≠ .cell
 kind : scope.kind = .function
 names : ∀ x ∈ scope.names, x.2 = .local -> scope.names.lookup x.1 = some .local
 lo : ∀ C, Lo (compEnvC scope cl C env) ns
noncomputable def Turn (c : Cx) (cenv : Addr -> Env) (target elt : PySem.Expr) (ifs : List PySem.Expr) (ns : List Str) (σ : Store) (l : List PV) (t : PV -> Bool) (f : PV -> PV) : Prop :=
 ∀ F β', VLe c.β β' -> ∀ C q vs, q ∈ l -> vs.length = ns.length -> Asg (c.ext F β') (cenv C) target q ((C, .loc ns vs) :: σ) (fun σ₂ => ∃ vs', vs'.length = ns.length /\ σ₂ = (C, .loc ns vs') :: σ /\
  (∀ V, W (c.ext F β') (tests ifs (cenv C)) V σ₂ (fun b _ σ₃ => b = t q /\ σ₃ = σ₂)) /\ (t q = true -> E (c.ext F β') (cenv C) elt σ₂ (fun r σ₃ => r = f q /\ σ₃ = σ₂)))
theorem take_filter_len {α β : Type} (t : α -> Bool) (f : α -> β) (l : List α) (i : Nat) : (((l.take i).filter t).map f).length <= l.length := by
 rw [lnM]
 exact Nat.le_trans (List.length_filter_le _ _) (by rw [List.length_take]; lia)
theorem compLoop_list {e target elt : PySem.Expr} {ifs : List PySem.Expr} {k : Nat} {p0 : Pos} {ns : List Str} {it C D : Addr} {cenv : Addr -> Env} {l r0 : List PV} {St : Nat -> Obj -> Prop} {need : Store -> Prop} {t : PV -> Bool} {f : PV -> PV} {A : Around} {β : View} {vs0 : List (Option PV)}
  (turnEq : compTurn e k (.ref it) (.ref D) (cenv C) = (do
   standAt p0
   match <- pyNext (.ref it) with
   | none => pure (.done .next)
   | some v =>
    letOwnedTupleGo target (.ref it) v
    assign target (cenv C) v
    let ok <- tests ifs (cenv C)
    if ok then (do let _ <- call (.builtin "list.append") [.ref D, <- eval elt (cenv C)])
    PySem.again (.compLoop e k (.ref it) (.ref D) (cenv C))))
  (hq : (Code.compLoop e k (.ref it) (.ref D) (cenv C)).quiet = true) (hden : c.M.den (Code.compLoop e k (.ref it) (.ref D) (cenv C)) = (compTurn e k (.ref it) (.ref D) (cenv C)).onRaise (fun x => do noteFrame x (cenv C); theTreesLotGoes x)) (hund : A.under (Code.compLoop e k (.ref it) (.ref D) (cenv C)) = A)
  (ht : LetsOk target) (hturn : Turn c cenv target elt ifs ns σ l t f) (hl : r0.length + l.length <= sizeLine) (hvs0 : vs0.length = ns.length)
  (I : Iters (c.ext c.F β) it l St need) (hneed : ∀ σ', (∀ x ∈ σ, x ∈ σ') -> need σ') (hA : AOk c A) (R' : Rep c ((((C, Cell.loc ns vs0) :: σ) ++ [(D, .list r0)]) ++ [(it, .that (St 0))]) s) (hβ : VLe β (vw c.F ((((C, Cell.loc ns vs0) :: σ) ++ [(D, .list r0)]) ++ [(it, .that (St 0))]) s)) :
  codeAny c.M A (.compLoop e k (.ref it) (.ref D) (cenv C)) (fun r s' => r = .ok .next /\ ∃ vs', vs'.length = ns.length /\ Out c ((((C, Cell.loc ns vs0) :: σ) ++ [(D, .list r0)]) ++ [(it, .that (St 0))]) s (((C, .loc ns vs') :: σ) ++ [(D, .list (r0 ++ (l.filter t).map f))]) s') s := by
 have hneed' : ∀ i σ', (∃ vs, vs.length = ns.length /\ σ' = ((C, Cell.loc ns vs) :: σ) ++ [(D, Cell.list (r0 ++ ((l.take i).filter t).map f))]) -> need σ' := fun i σ' ⟨vs, _, e⟩ => hneed σ' fun x hx => by
  rw [e]; exact memL _ (.tail _ hx)
 refine codeAny_mono (compLoop_run (Inv := fun i σ' => ∃ vs, vs.length = ns.length /\ σ' = ((C, Cell.loc ns vs) :: σ) ++ [(D, Cell.list (r0 ++ ((l.take i).filter t).map f))])
  turnEq hq hden hund ht I hneed' ⟨vs0, hvs0, by simp⟩ ?_ hA R' hβ) (fun r s' ⟨er, σ', o, vs, hvs, e⟩ => ?_)
 ·rintro F β' hb i q σ' hq ⟨vs, hvs, rfl⟩ V v hv
  have hmem : q ∈ l := List.mem_of_getElem? hq
  have hti := List.take_add_one (i := i) (l := l)
  rw [hq] at hti
  refine Asg.mono (Asg.fr (c := c.ext F β') (τ := [(D, Cell.list (r0 ++ ((l.take i).filter t).map f))]) (hturn _ β' hb C q vs hmem hvs)) (fun σ1 hq3 => ?_) V v hv
  obtain ⟨σ₂, e1, vs', hvs', e2, htst, helt⟩ := hq3
  subst e1 e2
  refine fun V2 => (W.fr (c := c.ext F β') (τ := [(D, Cell.list (r0 ++ ((l.take i).filter t).map f))]) htst V2).mono fun b V3 σ₂ _ hq4 => ?_
  obtain ⟨σ3, e3, eb, e4⟩ := hq4
  subst e3 e4 eb
  by_cases htq : t q = true
  ·rw [if_pos htq]
   refine fun V3 => W.bind ((W.fr (c := c.ext F β') (τ := [(D, Cell.list (r0 ++ ((l.take i).filter t).map f))]) (helt htq) V3).mono fun v4 V4 σ4 _ hq101 _ => ?_)
   obtain ⟨σ5, e5, r, rr, e6, e7⟩ := hq101
   subst e5 e6 e7
   refine W.bind ((Ca.append (c := c.ext F β') (Q := fun _ σ' => ∃ vs, vs.length = ns.length /\ σ' = ((C, Cell.loc ns vs) :: σ) ++ [(D, Cell.list (r0 ++ ((l.take (i + 1)).filter t).map f))]) (Up.append _ .head) ?_ ⟨vs', hvs', ?_⟩ _ _ (.cons (.raw (.ref D)) (.cons rr .nil))).mono fun u V' σ' _ ⟨_, _, hq⟩ _ => W.pure fun _ _ => hq)
   ·rw [List.length_append]
    have := take_filter_len t f l i
    lia
   ·rw [hti, List.filter_append, List.map_append]
    simp [htq]
  ·rw [if_neg htq]
   refine ⟨vs', hvs', ?_⟩
   rw [hti, List.filter_append, List.map_append]
   simp [htq]
 ·subst er e
  rw [List.take_length] at o
  exact ⟨rfl, vs, hvs, o⟩
theorem compList_pre {e : PySem.Expr} {scope : Scope} {cl : List (Str × Addr)} {ns : List Str} {it : Addr} {St : Nat -> Obj -> Prop} {A : Around} {RR : Value -> Addr -> Result -> Shared -> Prop}
  (ok : CompOk env scope cl ns) (R' : Rep c (σ ++ [(it, .that (St 0))]) s)
  (h : ∀ D C s4, Out c (σ ++ [(it, .that (St 0))]) s ((((C, .loc ns (List.replicate ns.length none)) :: σ) ++ [(D, .list [])]) ++ [(it, .that (St 0))]) s4 -> codeAny c.M A (.compStart e 0 (.ref it) (.ref D) (compEnvC scope cl C env)) (RR (.ref D) C) s4) :
  wpAny c.M A (newList []) (fun acc s3 => wpAny c.M A (newFunctionEnv scope env.globals cl [] env.qual none .none (some env)) (fun cenv s4 =>
   codeAny c.M A (.compStart e 0 (.ref it) acc { cenv with scope := relabel scope env }) (RR acc cenv.locals) s4) (fun _ _ => False) s3) (fun _ _ => False) s := by
 refine wpAny_newObj_type ?_
 have o1 := R'.push_cell { cls := .type "list", data := .seq ([] : List Value).toArray } (.list []) ⟨[], 0, rfl, .nil⟩
 refine wpAny_newFunctionEnv ok.cell (by intro y hy; simp at hy) (fun h₁ hns1 hsb1 => ?_) ok.kind
 dsimp only at hns1 hsb1 ⊢
 have keep : ∀ b o, (s.heap.push { cls := .type "list", data := .seq ([] : List Value).toArray }).get? b = some o -> h₁.get? b = some o := fun b o e =>
  hsb1.extBut b o (fun q => Nat.lt_irrefl _ (q ▸ get_lt e)) (Heap.get?_push_of_some _ e)
 have o2 := o1.rep.newLoc (h' := h₁) (ns := ns) (vs := List.replicate ns.length none) (tk := s.toks + ([] : List (Str × Value)).length) keep hns1 (Nat.le_refl _) (fun i p e => by
  have := List.mem_of_getElem? e
  rw [List.mem_replicate] at this
  cases this.2)
 generalize hC : (s.heap.push { cls := .type "list", data := .seq ([] : List Value).toArray } : Heap).objs.size = C at o2 ⊢
 generalize hD : s.heap.objs.size = D at o1 o2 ⊢
 have o3 := (o1.trans o2).perm_r (σ₂ := (((C, .loc ns (List.replicate ns.length none)) :: σ) ++ [(D, .list [])]) ++ [(it, .that (St 0))]) (by
  rw [List.append_assoc]
  refine .cons _ ?_
  have h1 : (σ ++ ([(D, Cell.list [])] ++ [(it, Cell.that (St 0))])).Perm ([(D, Cell.list [])] ++ (σ ++ [(it, Cell.that (St 0))])) := by
   rw [<- List.append_assoc, <- List.append_assoc]
   exact List.perm_append_comm.append_right _
  exact h1)
 exact h D C _ o3
theorem compList_core {elt target iter : PySem.Expr} {ifs : List PySem.Expr} {scope : Scope} {pos : Pos} {cl : List (Str × Addr)} {ns : List Str} {it : Addr} {l : List PV} {St : Nat -> Obj -> Prop} {need : Store -> Prop} {t : PV -> Bool} {f : PV -> PV} {A : Around} {β : View} {RR : Value -> Addr -> Result -> Shared -> Prop}
  (ok : CompOk env scope cl ns) (ht : LetsOk target) (hturn : Turn c (fun C => compEnvC scope cl C env) target elt ifs ns σ l t f) (hl : l.length <= sizeLine)
  (I : Iters (c.ext c.F β) it l St need) (hneed : ∀ σ', (∀ x ∈ σ, x ∈ σ') -> need σ') (hA : AOk c A) (R' : Rep c (σ ++ [(it, .that (St 0))]) s) (hβ : VLe β (vw c.F (σ ++ [(it, .that (St 0))]) s))
  (hRR : ∀ D C vs s', Out c (σ ++ [(it, .that (St 0))]) s (((C, .loc ns vs) :: σ) ++ [(D, .list ((l.filter t).map f))]) s' -> RR (.ref D) C (.ok .next) s') :
  wpAny c.M A (newList []) (fun acc s3 => wpAny c.M A (newFunctionEnv scope env.globals cl [] env.qual none .none (some env)) (fun cenv s4 =>
   codeAny c.M A (.compStart (.ListComp elt [⟨target, iter, ifs, 0⟩] scope pos) 0 (.ref it) acc { cenv with scope := relabel scope env }) (RR acc cenv.locals) s4) (fun _ _ => False) s3) (fun _ _ => False) s :=
 compList_pre ok R' fun D C s4 o3 => by
  refine compStart_run (target := target) (iter := iter) (ifs := ifs) rfl rfl rfl I hA o3.rep (hβ.trans o3.view) rfl ?_
  refine codeAny_mono (compLoop_list (e := .ListComp elt [⟨target, iter, ifs, 0⟩] scope pos) (k := 0) (cenv := fun C => compEnvC scope cl C env) (C := C) (D := D) (p0 := iter.pos) (by rfl) rfl rfl rfl ht hturn (by simpa using hl) List.length_replicate I hneed hA o3.rep (hβ.trans o3.view)) (fun r s' hq7 => ?_)
  obtain ⟨er, vs, _, o⟩ := hq7
  subst er
  exact hRR D C vs s' (o3.trans o)
noncomputable def Goes (p : PV) (σ : Store) (m : List PV) : Prop := p = .lst m \/ ∃ a, p = .raw (.ref a) /\ (a, Cell.list m) ∈ σ
theorem Goes.itb {p : PV} {m : List PV} {σ' : Store} (h : Goes p σ m) (hs : ∀ x ∈ σ, x ∈ σ') : Itb c p σ' m (fun σ'' => Goes p σ'' m) := by
 rcases h with rfl | ⟨a, rfl, h⟩
 ·exact fun A s v hA R hv => wm (Itb.lst A s v hA R hv) (fun itv s' ⟨it, St, e, o, I⟩ => ⟨it, St, e, o, ⟨fun A s σ i p hA R _ q => I.item A s σ i p hA R trivial q, fun A s σ hA R _ => I.stop A s σ hA R trivial, I.again, I.lets⟩⟩)
 ·refine fun A s v hA R hv => wm (Itb.list (hs _ h) A s v hA R hv) (fun itv s' ⟨it, St, e, o, I⟩ => ⟨it, St, e, o, ⟨fun A s σ i p hA R hn q => I.item A s σ i p hA R ?_ q, fun A s σ hA R hn => I.stop A s σ hA R ?_, I.again, I.lets⟩⟩)
  ·rcases hn with hn | ⟨b, e, hn⟩
   ·cases hn
   ·cases e; exact hn
  ·rcases hn with hn | ⟨b, e, hn⟩
   ·cases hn
   ·cases e; exact hn
theorem Goes.mono {p : PV} {m : List PV} {σ' : Store} (h : Goes p σ m) (hs : ∀ x ∈ σ, x ∈ σ') : Goes p σ' m := h.imp id fun ⟨a, e, h⟩ => ⟨a, e, hs _ h⟩
noncomputable def Turn2 (c : Cx) (cenv : Addr -> Env) (target target₂ iter₂ elt : PySem.Expr) (ns : List Str) (σ : Store) (l : List PV) (g : PV -> List PV) : Prop :=
 ∀ F β', VLe c.β β' -> ∀ C q vs, q ∈ l -> vs.length = ns.length -> Asg (c.ext F β') (cenv C) target q ((C, .loc ns vs) :: σ) (fun σ₂ => ∃ vs', vs'.length = ns.length /\ σ₂ = (C, .loc ns vs') :: σ /\
  E (c.ext F β') (cenv C) iter₂ σ₂ (fun p σ₃ => σ₃ = σ₂ /\ Goes p σ (g q)) /\ Turn (c.ext F β') cenv target₂ elt [] ns σ (g q) (fun _ => true) id)
end
section
variable {c : Cx} {env : Env} {σ : Store} {Q : PV -> Store -> Prop} {N : Store -> Prop} {R : PV -> Store -> Prop}
noncomputable def Jo (c : Cx) (env : Env) (es : List PySem.Expr) (acc : Str) (σ : Store) (Q : PV -> Store -> Prop) : Prop := ∀ V, W c (joinParts acc (evalEach es env)) V σ (ret Q)
theorem Jo.nil {acc : Str} (hz : acc.length <= sizeLine) (h : Q (.str acc) σ) : Jo c env [] acc σ Q := fun V A s hA R hV =>
 joinParts_nil (ret_toks R (Nat.le_succ _) (.str _ _) h) hz
inductive Kjo (c : Cx) (env : Env) (es : List PySem.Expr) (acc : Str) (Q : PV -> Store -> Prop) (p : PV) (σ : Store) : Prop
 | mk (y : Str) (e : p = .str y) (l : (acc ++ y).length <= sizeLine) (q : Jo c env es (acc ++ y) σ Q) : Kjo c env es acc Q p σ
inductive Kfm (Q : PV -> Store -> Prop) (p : PV) (σ : Store) : Prop
 | mk (x : Str) (e : p = .str x) (l : x.length <= sizeLine) (q : Q (.str x) σ) : Kfm Q p σ
theorem Jo.cons {e : PySem.Expr} {es : List PySem.Expr} {acc : Str} (h : E c env e σ (Kjo c env es acc Q)) : Jo c env (e :: es) acc σ Q := fun V A s hA R hV => by
 rw [arm_evalEach_cons]
 refine joinParts_cons (W.onr (h V) hA R hV (fun v s1 σ1 o1 p rp hq1 => ?_))
 obtain ⟨y, e, hz, q⟩ := hq1
 subst e
 obtain ⟨t, rfl⟩ := rp.inv_str
 exact ⟨hz, W.on (q _) hA o1.rep (.refl _) (fun v s2 σ₂ o2 q2 => ⟨σ₂, o1.trans o2, q2⟩)⟩
theorem E.fstr {v1 v2 : PySem.Expr} {rest : List PySem.Expr} {pos : Pos} (h : Jo c env (v1 :: v2 :: rest) Str.empty σ Q) : E c env (.JoinedStr (v1 :: v2 :: rest) pos) σ Q := fun V A s hA R hV => by
 have e : evalEach (v1 :: v2 :: rest) env = eval v1 env :: eval v2 env :: evalEach rest env := by rw [arm_evalEach_cons, arm_evalEach_cons]
 have h' := h V A s hA R hV
 rw [e] at h'
 exact JoinedStr_many h'
theorem E.fmt {value : PySem.Expr} {pos : Pos} (h : E c env value σ (Kfm Q)) : E c env (.FormattedValue value (-1) Option.none pos) σ Q := fun V A s hA R hV =>
 FormattedValue_plain (W.onr (h V) hA R hV (fun v s1 σ1 o1 p rp hq2 => by
  obtain ⟨x, e, hz, q⟩ := hq2
  subst e
  obtain ⟨t, rfl⟩ := rp.inv_str
  show wpAny _ _ (do rule "fstring.same-str"; habitSame "fstring-hands-on-the-str" (.str x t)) _ _ s1
  refine wb (wpAny_rule ?_)
  unfold habitSame
  refine wb (wpAny_askSetting ?_)
  show wpAny c.M A (if (!(c.M.w.params.followText "fstring-hands-on-the-str")) = true then pure (.str x t) else mkStr x) _ _ s1
  cases c.M.w.params.followText "fstring-hands-on-the-str"
  ·exact wq ⟨σ1, o1, _, .str _ _, q⟩
  ·exact wpAny_mkStr ⟨σ1, o1.trans (.toks o1.rep _ (Nat.le_succ _)), _, .str _ _, q⟩ hz))
theorem E.fmtInt {value : PySem.Expr} {pos : Pos} (h : E c env value σ (fun p σ1 => ∃ i, p = .int i /\ i.natAbs.log2 < 1920 /\ Q (.str (toString i)) σ1)) : E c env (.FormattedValue value (-1) Option.none pos) σ Q := fun V A s hA R hV =>
 FormattedValue_plain (W.onr (h V) hA R hV (fun v s1 σ1 o1 p rp hq3 => by
  obtain ⟨x, e, hz, q⟩ := hq3
  subst e
  obtain ⟨t, rfl⟩ := rp.inv_int
  exact formatField_int_small hz ⟨σ1, o1.trans (.toks o1.rep _ (by lia)), _, .str _ _, q⟩))
noncomputable abbrev Kau (c : Cx) (op : Operator) (p : PV) (Q : PV -> Store -> Prop) : PV -> Store -> Prop := fun q σ => ∀ V va vb, VR V p va -> VR V q vb -> W c (inplaceOp op va vb) V σ (ret Q)
theorem X.aug {L : Addr} {ns : List Str} {vs : List (Option PV)} {x : Str} {pos' pos : Pos} {op : Operator} {value : PySem.Expr} {p : PV} (hL : Lo env ns) (hl : env.locals = L) (hm : (L, Cell.loc ns vs) ∈ σ) (hk : Lk ns vs x p)
  (h : E c env value σ (Kau c op p (Kas L ns x N))) :
  X c env (.AugAssign (.Name x pos') op value pos) σ N R := fun V A s hA Rp hV => by
 subst hl
 obtain ⟨i, a, b⟩ := hk.idx
 obtain ⟨m, hn, hr⟩ := Rp.loc hm
 obtain ⟨v, e, r⟩ := hr i x p a b
 have hmem : x ∈ ns := List.mem_of_getElem? a
 refine wpAny_AugAssign_Name (wpAny_loadName_local hL.kind (hL.loc x hmem) hn e ?_)
 refine W.onr (h V) hA Rp hV (fun vb s1 σ1 o1 q rq hq => ?_)
 refine W.onr (hq _ v vb (r.mono o1.view) rq) hA o1.rep (.refl _) (fun w s2 σ₂ o2 u ru hq4 => ?_)
 obtain ⟨vs, vs', τ, e2, U, hN⟩ := hq4
 subst e2
 exact W.on (W.su (c := c) (Q := fun _ _ σ' => N σ') hL rfl ru U (fun _ _ => hN)) hA o2.rep (.refl _) (fun _ s3 σ3 o3 q3 => ⟨σ3, (o1.trans o2).trans o3, q3⟩)
noncomputable def SetA (c : Cx) (o : PV) (name : Str) (p : PV) (σ : Store) (N : Store -> Prop) : Prop := ∀ V vo vp, VR V o vo -> VR V p vp -> W c (setAttr vo name vp) V σ (fun _ _ σ' => N σ')
theorem X.setattr {o value : PySem.Expr} {attr : Str} {pos' pos : Pos} (h : E c env value σ (fun p σ1 => E c env o σ1 (fun q σ₂ => SetA c q attr p σ₂ N)))
  (hs : autoParam (swapsWith value (some (.Attribute o attr pos')) pos.line env = pure false) aRfl) : X c env (.Assign [.Attribute o attr pos'] value pos) σ N R := fun V A s hA Rp hV =>
 plainObj_wpAny_Assign_Attribute (W.onr (h V) hA Rp hV (fun v s1 σ1 o1 p rp q1 =>
  W.onr (q1 _) hA o1.rep (.refl _) (fun ov s2 σ₂ o2 q rq q2 =>
   W.on (q2 _ ov v rq (rp.mono o2.view)) hA o2.rep (.refl _) (fun _ s3 σ3 o3 q3 => ⟨σ3, (o1.trans o2).trans o3, q3⟩)))) hs
noncomputable def SetI (c : Cx) (o i p : PV) (σ : Store) (N : Store -> Prop) : Prop := ∀ V vo vi vp, VR V o vo -> VR V i vi -> VR V p vp -> W c (setItem vo vi vp) V σ (fun _ _ σ' => N σ')
theorem X.setitem {o i value : PySem.Expr} {pos' pos : Pos} (h : E c env value σ (fun p σ1 => E c env o σ1 (fun q σ₂ => E c env i σ₂ (fun r σ3 => SetI c q r p σ3 N))))
  (hs : autoParam (swapsWith value (some (.Subscript o i pos')) pos.line env = pure false) aRfl) : X c env (.Assign [.Subscript o i pos'] value pos) σ N R := fun V A s hA Rp hV =>
 wpAny_Assign_Subscript (W.onr (h V) hA Rp hV (fun v s1 σ1 o1 p rp q1 =>
  W.onr (q1 _) hA o1.rep (.refl _) (fun ov s2 σ₂ o2 q rq q2 =>
   W.onr (q2 _) hA o2.rep (.refl _) (fun iv s3 σ3 o3 r rr q3 =>
    W.on (q3 _ ov iv v (rq.mono o3.view) rr ((rp.mono o2.view).mono o3.view)) hA o3.rep (.refl _) (fun _ s4 σ4 o4 q4 => ⟨σ4, ((o1.trans o2).trans o3).trans o4, q4⟩))))) hs
theorem X.asg2 {t1 t2 value : PySem.Expr} {pos : Pos} (h : E c env value σ (fun p σ1 => Asg c env t1 p σ1 (fun σ₂ => Asg c env t2 p σ₂ N)))
  (he : autoParam ((assignEach [t1, t2] env).map (·.2) = [PySem.assign t1 env, PySem.assign t2 env]) aRfl) (hw : autoParam (swappedStores [t1, t2] value env = pure Option.none) aRfl) : X c env (.Assign [t1, t2] value pos) σ N R := fun V A s hA Rp hV =>
 wpAny_Assign_two (W.onr (h V) hA Rp hV (fun v s1 σ1 o1 p rp q1 =>
  W.on (q1 _ v rp) hA o1.rep (.refl _) (fun _ s2 σ₂ o2 q2 =>
   W.on (q2 _ v (rp.mono o2.view)) hA o2.rep (.refl _) (fun _ s3 σ3 o3 q3 => ⟨σ3, (o1.trans o2).trans o3, q3⟩)))) he hw
theorem Asg.item {o i : PySem.Expr} {pos : Pos} {p : PV} (h : E c env o σ (fun q σ₂ => E c env i σ₂ (fun r σ3 => SetI c q r p σ3 N))) : Asg c env (.Subscript o i pos) p σ N := fun V v hv A s hA Rp hV => by
 rw [assign_Subscript]
 refine wb (wpAny_holding (W.onr (h V) hA Rp hV (fun ov s2 σ₂ o2 q rq q2 => ?_)))
 refine wb (wpAny_holding (W.onr (q2 _) hA o2.rep (.refl _) (fun iv s3 σ3 o3 r rr q3 => ?_)))
 refine wb (wpAny_standAt (wb (wpAny_holding (W.on (q3 _ ov iv v (rq.mono o3.view) rr (((hv.mono hV).mono o2.view).mono o3.view)) hA o3.rep (.refl _) (fun _ s4 σ4 o4 q4 => ?_)))))
 exact wpAny_release ⟨σ4, (o2.trans o3).trans o4, q4⟩
theorem X.while {test : PySem.Expr} {body : List Stmt} {pos : Pos} (Inv : Nat -> Store -> Prop) (n : Nat) (h0 : Inv n σ)
  (ht : ∀ n σ', Inv n σ' -> T c env test σ' (fun b σ1 => if b = true then Xs c env body σ1 (fun σ₂ => ∃ m, m < n /\ Inv m σ₂) R else N σ1)) : X c env (.While test body [] pos) σ N R := fun V A s hA Rp hV => by
 refine wpAny_While (codeAny_whileLoop (fun n s' => ∃ σ', Out c σ s σ' s' /\ Inv n σ') (fun n s' ⟨σ', o, hI⟩ => ?_) n ⟨σ, .refl Rp, h0⟩)
 refine W.on (ht n σ' hI (vw c.F σ' s')) hA o.rep (.refl _) (fun b s2 σ₂ o2 q => ?_)
 cases b with
 | true =>
  refine W.on (q _) hA o2.rep (.refl _) (fun f s3 σ3 o3 q3 => ?_)
  cases f with
  | next => exact let ⟨m, hm, hI⟩ := q3; ⟨m, hm, σ3, (o.trans o2).trans o3, hI⟩
  | ret v => exact ⟨σ3, (o.trans o2).trans o3, q3⟩
  | brk => exact q3.elim
  | cont => exact q3.elim
 | false => exact wpAny_execs_nil ⟨σ₂, o.trans o2, q⟩
noncomputable def It (c : Cx) (o i : PV) (σ : Store) (Q : PV -> Store -> Prop) : Prop := ∃ T id, typeLookup (.type T) "__getitem__" = pure (some (.builtin id)) /\ HasT c o σ T /\ Sub c o i σ Q
noncomputable abbrev Ks2 (c : Cx) (Q : PV -> Store -> Prop) (o : PV) : PV -> Store -> Prop := fun i σ => It c o i σ Q
noncomputable abbrev Ks (c : Cx) (env : Env) (e : PySem.Expr) (Q : PV -> Store -> Prop) : PV -> Store -> Prop := fun o σ => E c env e σ (Ks2 c Q o)
theorem E.sub {value slice : PySem.Expr} {pos : Pos} (h : E c env value σ (Ks c env slice Q))
  (hs : autoParam (∀ o i, subscripted slice false o i = operate [o, i] (getItem o i)) aIir) : E c env (.Subscript value slice pos) σ Q := fun V A s hA Rp hV =>
 Subscript_ (W.onr (h V) hA Rp hV (fun ov s1 σ1 o1 o ro q1 => W.onr (q1 _) hA o1.rep (.refl _) (fun iv s2 σ₂ o2 i ri hq6 => by
  obtain ⟨T, id, hl, hT, q2⟩ := hq6
  have ro' := ro.mono o2.view
  have hT' := (hT s2 ov o2.rep ro').1
  unfold subscriptTail
  refine wb ?_
  rw [getitemInPython_of_ne hT'.not_modules]
  refine wb (wpAny_specialOf hT' hl ?_)
  have fin : wpAny c.M A (subscripted slice false ov iv) (fun r s3 => wpAny c.M A (letTemporaryGo value ov r >>= fun _ => pure r) (fun v s' => Ends c σ s (ret Q v) s') (fun _ _ => False) s3) (fun _ _ => False) s2 := by
   rw [hs]
   exact wpAny_operating (wpAny_mono (q2 _ ov iv ro' ri A s2 hA o2.rep (.refl _)) (fun r s3 ⟨σ3, o3, q3⟩ => wb (wpAny_letTemporaryGo (wq ⟨σ3, (o1.trans o2).trans o3, q3⟩))) fun _ _ x => x)
  first
   | exact wq (wb fin)
   | exact wb (wq (wb fin))
   | exact wb fin)))
theorem It.lst {l : List PV} {k : Int} {p : PV} (h0 : 0 <= k) (hf : k < 2 ^ 63) (hx : l[k.toNat]? = some p) (h : Q p σ) : It c (.lst l) (.int k) σ Q := by
 refine ⟨"list", _, list_getitem_lookup, fun s v R hv => ?_, fun V va vb ra rb A s hA R hV => ?_⟩
 ·obtain ⟨a, vs, n, rfl, e, rv⟩ := hv.inv_lst
  have e' := (vw_some.mp e).2.2
  exact ⟨⟨_, e', rfl⟩, fun b q => by cases q; exact ⟨_, e', rfl⟩⟩
 ·obtain ⟨a, vs, n, rfl, e, rv⟩ := (ra.mono hV).inv_lst
  obtain ⟨t, rfl⟩ := rb.inv_int
  obtain ⟨v, ev, r⟩ := rv.get hx
  exact getItem_listL (seqObj_isList (vw_some.mp e).2.2) h0 hf ev (ret_here R r h)
theorem It.list {a : Addr} {l : List PV} {k : Int} {p : PV} (hm : (a, Cell.list l) ∈ σ) (h0 : 0 <= k) (hf : k < 2 ^ 63) (hx : l[k.toNat]? = some p) (h : Q p σ) : It c (.raw (.ref a)) (.int k) σ Q := by
 refine ⟨"list", _, list_getitem_lookup, HasT.list hm, fun V va vb ra rb A s hA R hV => ?_⟩
 have := ra.inv_raw
 subst this
 obtain ⟨t, rfl⟩ := rb.inv_int
 obtain ⟨o, e, vs, n, rfl, rv⟩ := R.cells _ hm
 obtain ⟨v, ev, r⟩ := rv.get hx
 exact getItem_listL (seqObj_isList e) h0 hf ev (ret_here R r h)
theorem It.last {a : Addr} {l : List PV} {p : PV} (hm : (a, Cell.list (l ++ [p])) ∈ σ) (h : Q p σ) : It c (.raw (.ref a)) (.int (-1)) σ Q := by
 refine ⟨"list", _, list_getitem_lookup, HasT.list hm, fun V va vb ra rb A s hA R hV => ?_⟩
 have := ra.inv_raw
 subst this
 obtain ⟨t, rfl⟩ := rb.inv_int
 obtain ⟨o, e, vs, n, rfl, rv⟩ := R.cells _ hm
 obtain ⟨v, ev, r⟩ := rv.get (i := l.length) (p := p) (by simp)
 have hlen : vs.length = l.length + 1 := by rw [rv.length]; simp
 refine kde_getNeg (seqObj_isList e) (by decide) (by decide) (j := l.length) ?_ ev (ret_here R r h)
 rw [hlen]
 have := seqIndex?_neg_one (n := l.length + 1) (by lia)
 simpa using this
theorem It.tup {l : List PV} {k : Int} {j : Nat} {p : PV} (hlo : -(2 ^ 63) <= k) (hf : k < 2 ^ 63) (hj : seqIndex? k l.length = some j) (hx : l[j]? = some p) (h : Q p σ) : It c (.tup l) (.int k) σ Q := by
 refine ⟨"tuple", _, slot_tuple_getitem.lookup, fun s v R hv => ?_, fun V va vb ra rb A s hA R hV => ?_⟩
 ·obtain ⟨a, vs, n, rfl, e, rv⟩ := hv.inv_tup
  have e' := (vw_some.mp e).2.2
  exact ⟨⟨_, e', rfl⟩, fun b q => by cases q; exact ⟨_, e', rfl⟩⟩
 ·obtain ⟨a, vs, n, rfl, e, rv⟩ := (ra.mono hV).inv_tup
  obtain ⟨t, rfl⟩ := rb.inv_int
  obtain ⟨v, ev, r⟩ := rv.get hx
  have e' := (vw_some.mp e).2.2
  exact PyProof.Rows.getItem_tuple (items := vs.toArray) ⟨_, e', rfl, n, rfl⟩ hlo hf (by rw [List.size_toArray, rv.length]; exact hj) (by simpa using ev) (ret_here R r h)
theorem It.str {x : Str} {k : Int} {ch : Nat} (h0 : 0 <= k) (hf : k < 2 ^ 63) (hx : x.cps.toList[k.toNat]? = some ch) (h : Q (.str (Sl [ch])) σ) : It c (.str x) (.int k) σ Q := by
 refine ⟨"str", _, F.slot_str_getitem.lookup, HasT.str, fun V va vb ra rb A s hA R hV => ?_⟩
 obtain ⟨t, rfl⟩ := ra.inv_str
 obtain ⟨u, rfl⟩ := rb.inv_int
 have hlt : k.toNat < x.length := by
  have := (List.getElem?_eq_some_iff.mp hx).1
  simpa [Str.length] using this
 refine PySem.P.getItem_str (i := k) (c := ch) ?_ ?_ (ret_toks R (Nat.le_succ _) (.str _ _) h)
 ·rw [Bool.or_eq_false_iff]; exact ⟨decide_eq_false (by lia), decide_eq_false (by lia)⟩
 ·rw [seqIndex_of h0 (by lia), Option.bind_some]
  simpa using hx
noncomputable def Pt (c : Cx) (env : Env) (e : Option PySem.Expr) (σ : Store) (Q : Option Int -> Store -> Prop) : Prop := ∀ V, W c (evalPart e env) V σ (fun v V' σ' => ∃ i, IsPart v i /\ Q i σ')
theorem Pt.none {Q : Option Int -> Store -> Prop} (h : Q Option.none σ) : Pt c env Option.none σ Q := fun V A s hA R hV => wq ⟨σ, .refl R, Option.none, .none, h⟩
inductive Kp (Q : Option Int -> Store -> Prop) (p : PV) (σ : Store) : Prop
 | mk (i : Int) (e : p = .int i) (q : Q (some i) σ) : Kp Q p σ
theorem Pt.some {e : PySem.Expr} {Q : Option Int -> Store -> Prop} (h : E c env e σ (Kp Q)) : Pt c env (some e) σ Q := fun V => (h V).mono fun v V' σ' _ hq8 => by
 obtain ⟨p, rp, i, e, q⟩ := hq8
 subst e
 obtain ⟨t, rfl⟩ := rp.inv_int
 exact ⟨_, .int i t, q⟩
theorem isPart_pv {v : Value} {i : Option Int} (h : IsPart v i) : ∃ l : Option (Int × Tok), v = partValue l /\ l.map (·.1) = i := by
 cases h with
 | none => exact ⟨Option.none, rfl, rfl⟩
 | int i t => exact ⟨Option.some (i, t), rfl, rfl⟩
inductive Kw3 (Q : PV -> Store -> Prop) (o : PV) (l u : Option Int) (σ : Store) : Prop
 | mk (x : Str) (e : o = .str x) (n : x.length <= sizeLine) (q : Q (.str (Txt.slice x l u)) σ) : Kw3 Q o l u σ
noncomputable abbrev Kw2 (c : Cx) (env : Env) (u : Option PySem.Expr) (Q : PV -> Store -> Prop) (o : PV) : Option Int -> Store -> Prop := fun l σ => Pt c env u σ (Kw3 Q o l)
noncomputable abbrev Kw (c : Cx) (env : Env) (l u : Option PySem.Expr) (Q : PV -> Store -> Prop) : PV -> Store -> Prop := fun o σ => Pt c env l σ (Kw2 c env u Q o)
theorem E.slStr {value : PySem.Expr} {lower upper : Option PySem.Expr} {p pos : Pos} (h : E c env value σ (Kw c env lower upper Q))
  (ht : autoParam (∀ o r, letTemporaryGo value o r = pure ()) aIir) : E c env (.Subscript value (.Slice lower upper Option.none p) pos) σ Q := fun V A s hA Rp hV =>
 wpAny_Subscript_str_slice (W.onr (h V) hA Rp hV (fun ov s1 σ1 o1 o ro q1 => W.on (q1 _) hA o1.rep (.refl _) (fun lv s2 σ₂ o2 ⟨l, il, q2⟩ => W.on (q2 _) hA o2.rep (.refl _) (fun uv s3 σ3 o3 hq10 => by
  obtain ⟨u, iu, x, e, hz, q⟩ := hq10
  subst e
  obtain ⟨t, rfl⟩ := ro.inv_str
  obtain ⟨l', rfl, rfl⟩ := isPart_pv il
  obtain ⟨u', rfl, rfl⟩ := isPart_pv iu
  refine ⟨x, t, l', u', rfl, rfl, rfl, ?_⟩
  obtain ⟨o4, _⟩ := o3.rep.push_frz { cls := .type "slice", data := .fields #[partValue l', partValue u', .none] }
  have o := ((o1.trans o2).trans o3).trans o4
  have hsl := Txt.slice_le x (l'.map (·.1)) (u'.map (·.1))
  unfold Txt.slice at q hsl
  unfold sliceMade slicePicked
  dsimp only [Option.map_none, Option.getD_none]
  split
  ·rename_i hc
   rw [if_pos hc] at q
   exact ⟨σ3, o, _, .str _ _, q⟩
  ·rename_i hc
   rw [if_neg hc] at q hsl
   exact ⟨Nat.le_trans hsl hz, σ3, o.trans (.toks o.rep _ (Nat.le_succ _)), _, .str _ _, q⟩)))) ht
end
theorem AOk.mark {c : Cx} {A : Around} (h : AOk c A) (m : Option Value) (hm : m = none) : AOk c (A.mark m) := by
 subst hm
 exact ⟨h.handled, h.depth, h.units⟩
section
variable {c : Cx} {env : Env} {σ : Store} {s : Shared} {Q : PV -> Store -> Prop} {N : Store -> Prop} {R : PV -> Store -> Prop}
theorem nodup_left {σ τ : Store} (h : (addrs (σ ++ τ)).Nodup) : (addrs σ).Nodup := by
 rw [addrs, List.map_append] at h
 exact (List.nodup_append.mp h).1
theorem Out.freeze {σ' : Store} {s' : Shared} {D : Addr} {l : List PV} (o : Out c σ s (σ' ++ [(D, .list l)]) s') : Out c σ s σ' s' /\ VR (vw c.F σ' s') (.lst l) (.ref D) := by
 obtain ⟨x, e, vs, n, rfl, rv⟩ := o.rep.cells (D, .list l) (memR _ (.head _))
 have nd := o.rep.nodup
 have od := Out.sub o.rep (σ' := σ') (fun p hp => memL _ hp) (nodup_left nd)
 refine ⟨o.trans od, .lst (vs := vs) (n := n) (vw_some.mpr ⟨?_, ?_, e⟩) (rv.mono od.view)⟩
 ·exact o.rep.disj D (List.mem_map_of_mem (f := Prod.fst) (memR _ (.head _)))
 ·rw [addrs, List.map_append] at nd
  exact fun q => (List.nodup_append.mp nd).2.2 D q D (.head _) rfl
theorem inner_run {e target2 iter2 elt : PySem.Expr} {p0 pi : Pos} {ns : List Str} {C D : Addr} {cenv : Addr -> Env} {m r : List PV} {t : PV -> Bool} {f : PV -> PV} {vs : List (Option PV)}
  (hcl : (clausesOf e)[1]? = some ⟨target2, iter2, [], 0⟩)
  (turnEq : ∀ it, compTurn e 1 (.ref it) (.ref D) (cenv C) = (do
   standAt p0
   match <- pyNext (.ref it) with
   | none => pure (.done .next)
   | some v =>
    letOwnedTupleGo target2 (.ref it) v
    assign target2 (cenv C) v
    let ok <- tests [] (cenv C)
    if ok then (do let _ <- call (.builtin "list.append") [.ref D, <- eval elt (cenv C)])
    PySem.again (.compLoop e 1 (.ref it) (.ref D) (cenv C))))
  (hq : ∀ it, (Code.compLoop e 1 (.ref it) (.ref D) (cenv C)).quiet = true)
  (hden0 : ∀ it, c.M.den (Code.compStart e 1 (.ref it) (.ref D) (cenv C)) = (compStart e 1 (.ref it) (.ref D) (cenv C)).onRaise (fun x => do noteFrame x (cenv C); standAt theWindowsPlace)) (hund0 : ∀ (A : Around) it, A.under (Code.compStart e 1 (.ref it) (.ref D) (cenv C)) = A)
  (hden : ∀ it, c.M.den (Code.compLoop e 1 (.ref it) (.ref D) (cenv C)) = (compTurn e 1 (.ref it) (.ref D) (cenv C)).onRaise (fun x => do noteFrame x (cenv C); theTreesLotGoes x)) (hund : ∀ (A : Around) it, A.under (Code.compLoop e 1 (.ref it) (.ref D) (cenv C)) = A)
  (ht : LetsOk target2) (hs : ∀ x, foldedSetIterable iter2 (cenv C) x = pure x) (hvs : vs.length = ns.length)
  (hiter : E (c.ext (c.F ++ [D]) c.β) (cenv C) iter2 ((C, .loc ns vs) :: σ) (fun p σ3 => σ3 = (C, .loc ns vs) :: σ /\ Goes p σ m)) (hturn : Turn c cenv target2 elt [] ns σ m t f) (hl : r.length + m.length <= sizeLine) (V : View) :
  W c (do
   let x <- eval iter2 (cenv C)
   standAt pi
   let x <- foldedSetIterable iter2 (cenv C) x
   let _ <- runOwn (.compStart e 1 (<- holding [x] (pyIter x)) (.ref D) (cenv C)) (cenv C)) V (((C, .loc ns vs) :: σ) ++ [(D, .list r)])
   (fun _ _ σ' => ∃ vs', vs'.length = ns.length /\ σ' = ((C, .loc ns vs') :: σ) ++ [(D, .list (r ++ (m.filter t).map f))]) := fun A s hA Rp hV => by
 refine wb (W.onr (E.fr (c := c) (τ := [(D, Cell.list r)]) hiter V) hA Rp hV (fun x s1 σ1 o1 p rp hq1 => ?_))
 obtain ⟨σ', e1, e2, hg⟩ := hq1
 subst e1 e2
 refine wb (wpAny_standAt ?_)
 rw [hs]
 refine wb (wq ?_)
 refine wb (wpAny_holding (wpAny_mono (hg.itb (c := c) (σ' := ((C, Cell.loc ns vs) :: σ) ++ [(D, Cell.list r)]) (fun z hz => memL _ (.tail _ hz)) A s1 x hA o1.rep rp) (fun itv s2 hq2 => ?_) fun _ _ e => e.elim))
 obtain ⟨it, St, e, o2, I⟩ := hq2
 subst e
 refine wb (wpAny_runOwn (h := none) ?_)
 have hA' := hA.mark none rfl
 have vb := o2.rep.base
 refine compStart_run hcl (hden0 it) (hund0 _ it) I hA' o2.rep (.refl _) (hq it) ?_
 refine codeAny_mono (compLoop_list (turnEq it) (hq it) (hden it) (hund _ it) ht hturn hl hvs I (fun σ' h => hg.mono h) hA' o2.rep (.refl _)) (fun r2 s3 hq3 => ?_)
 obtain ⟨er, vs', hvs', o3⟩ := hq3
 subst er
 exact wq ⟨_, (o1.trans o2).trans o3, vs', hvs', rfl⟩
theorem compLoop_list2 {e target target2 iter2 elt : PySem.Expr} {p0 p1 pi : Pos} {ns : List Str} {it C D : Addr} {cenv : Addr -> Env} {l : List PV} {St : Nat -> Obj -> Prop} {need : Store -> Prop} {g : PV -> List PV} {A : Around} {β : View} {vs0 : List (Option PV)}
  (hcl : (clausesOf e)[1]? = some ⟨target2, iter2, [], 0⟩)
  (turnEq : compTurn e 0 (.ref it) (.ref D) (cenv C) = (do
   standAt p0
   match <- pyNext (.ref it) with
   | none => pure (.done .next)
   | some v =>
    letOwnedTupleGo target (.ref it) v
    assign target (cenv C) v
    let ok <- tests [] (cenv C)
    if ok then (do
     let x <- eval iter2 (cenv C)
     standAt pi
     let x <- foldedSetIterable iter2 (cenv C) x
     let _ <- runOwn (.compStart e 1 (<- holding [x] (pyIter x)) (.ref D) (cenv C)) (cenv C))
    PySem.again (.compLoop e 0 (.ref it) (.ref D) (cenv C))))
  (turnEq2 : ∀ it, compTurn e 1 (.ref it) (.ref D) (cenv C) = (do
   standAt p1
   match <- pyNext (.ref it) with
   | none => pure (.done .next)
   | some v =>
    letOwnedTupleGo target2 (.ref it) v
    assign target2 (cenv C) v
    let ok <- tests [] (cenv C)
    if ok then (do let _ <- call (.builtin "list.append") [.ref D, <- eval elt (cenv C)])
    PySem.again (.compLoop e 1 (.ref it) (.ref D) (cenv C))))
  (hq : ∀ k it, (Code.compLoop e k (.ref it) (.ref D) (cenv C)).quiet = true)
  (hden0 : ∀ it, c.M.den (Code.compStart e 1 (.ref it) (.ref D) (cenv C)) = (compStart e 1 (.ref it) (.ref D) (cenv C)).onRaise (fun x => do noteFrame x (cenv C); standAt theWindowsPlace)) (hund0 : ∀ (A : Around) it, A.under (Code.compStart e 1 (.ref it) (.ref D) (cenv C)) = A)
  (hden : ∀ k it, c.M.den (Code.compLoop e k (.ref it) (.ref D) (cenv C)) = (compTurn e k (.ref it) (.ref D) (cenv C)).onRaise (fun x => do noteFrame x (cenv C); theTreesLotGoes x)) (hund : ∀ (A : Around) k it, A.under (Code.compLoop e k (.ref it) (.ref D) (cenv C)) = A)
  (ht : LetsOk target) (ht2 : LetsOk target2) (hs : ∀ x, foldedSetIterable iter2 (cenv C) x = pure x)
  (hturn : Turn2 c cenv target target2 iter2 elt ns σ l g) (hl : (l.flatMap g).length <= sizeLine) (hvs0 : vs0.length = ns.length)
  (I : Iters (c.ext c.F β) it l St need) (hneed : ∀ σ', (∀ x ∈ σ, x ∈ σ') -> need σ') (hA : AOk c A) (R' : Rep c ((((C, Cell.loc ns vs0) :: σ) ++ [(D, .list [])]) ++ [(it, .that (St 0))]) s) (hβ : VLe β (vw c.F ((((C, Cell.loc ns vs0) :: σ) ++ [(D, .list [])]) ++ [(it, .that (St 0))]) s)) :
  codeAny c.M A (.compLoop e 0 (.ref it) (.ref D) (cenv C)) (fun r s' => r = .ok .next /\ ∃ vs', vs'.length = ns.length /\ Out c ((((C, Cell.loc ns vs0) :: σ) ++ [(D, .list [])]) ++ [(it, .that (St 0))]) s (((C, .loc ns vs') :: σ) ++ [(D, .list (l.flatMap g))]) s') s := by
 have hneed' : ∀ i σ', (∃ vs, vs.length = ns.length /\ σ' = ((C, Cell.loc ns vs) :: σ) ++ [(D, Cell.list ((l.take i).flatMap g))]) -> need σ' := fun i σ' ⟨vs, _, e⟩ => hneed σ' fun x hx => by
  rw [e]; exact memL _ (.tail _ hx)
 refine codeAny_mono (compLoop_run (Inv := fun i σ' => ∃ vs, vs.length = ns.length /\ σ' = ((C, Cell.loc ns vs) :: σ) ++ [(D, Cell.list ((l.take i).flatMap g))])
  turnEq (hq 0 it) (hden 0 it) (hund _ 0 it) ht I hneed' ⟨vs0, hvs0, by simp⟩ ?_ hA R' hβ) (fun r s' ⟨er, σ', o, vs, hvs, e⟩ => ?_)
 ·rintro F β' hb i q σ' hq' ⟨vs, hvs, rfl⟩ V v hv
  have hmem : q ∈ l := List.mem_of_getElem? hq'
  have hti := List.take_add_one (i := i) (l := l)
  rw [hq'] at hti
  refine Asg.mono (Asg.fr (c := c.ext F β') (τ := [(D, Cell.list ((l.take i).flatMap g))]) (hturn _ β' hb C q vs hmem hvs)) (fun σ1 hq3 => ?_) V v hv
  obtain ⟨σ₂, e₁, vs', hvs', e2, hit, htu⟩ := hq3
  subst e₁ e2
  refine fun V2 => tests_nil fun V3 _ => ?_
  rw [if_pos rfl]
  intro V4
  have hroom : ((l.take i).flatMap g).length + (g q).length <= sizeLine := by
   have e1 : l.flatMap g = (l.take i).flatMap g ++ (g q ++ (l.drop (i + 1)).flatMap g) := by
    have h1 := (List.getElem?_eq_some_iff.mp hq').1
    conv => lhs; rw [<- List.take_append_drop i l, List.drop_eq_getElem_cons h1]
    have h2 : l[i] = q := (List.getElem?_eq_some_iff.mp hq').2
    rw [h2, List.flatMap_append, List.flatMap_cons]
   rw [e1, List.length_append, List.length_append] at hl
   lia
  refine (inner_run (c := c.ext F β') hcl turnEq2 (hq 1) hden0 hund0 (hden 1) (fun A it => hund A 1 it) ht2 hs hvs' (t := fun _ => true) (f := id) (m := g q) hit htu hroom V4).mono fun _ V5 σ5 _ hq4 => ?_
  obtain ⟨vs5, hvs5, e5⟩ := hq4
  subst e5
  refine ⟨vs5, hvs5, ?_⟩
  rw [hti, List.flatMap_append]
  simp
 ·subst er e
  rw [List.take_length] at o
  exact ⟨rfl, vs, hvs, o⟩
theorem compList2_core {elt target target2 iter iter2 : PySem.Expr} {scope : Scope} {pos : Pos} {cl : List (Str × Addr)} {ns : List Str} {it : Addr} {l : List PV} {St : Nat -> Obj -> Prop} {need : Store -> Prop} {g : PV -> List PV} {A : Around} {β : View} {RR : Value -> Addr -> Result -> Shared -> Prop}
  (ok : CompOk env scope cl ns) (ht : LetsOk target) (ht2 : LetsOk target2) (hs : ∀ C x, foldedSetIterable iter2 (compEnvC scope cl C env) x = pure x)
  (hturn : Turn2 c (fun C => compEnvC scope cl C env) target target2 iter2 elt ns σ l g) (hl : (l.flatMap g).length <= sizeLine)
  (I : Iters (c.ext c.F β) it l St need) (hneed : ∀ σ', (∀ x ∈ σ, x ∈ σ') -> need σ') (hA : AOk c A) (R' : Rep c (σ ++ [(it, .that (St 0))]) s) (hβ : VLe β (vw c.F (σ ++ [(it, .that (St 0))]) s))
  (hRR : ∀ D C vs s', Out c (σ ++ [(it, .that (St 0))]) s (((C, .loc ns vs) :: σ) ++ [(D, .list (l.flatMap g))]) s' -> RR (.ref D) C (.ok .next) s') :
  wpAny c.M A (newList []) (fun acc s3 => wpAny c.M A (newFunctionEnv scope env.globals cl [] env.qual none .none (some env)) (fun cenv s4 =>
   codeAny c.M A (.compStart (.ListComp elt [⟨target, iter, [], 0⟩, ⟨target2, iter2, [], 0⟩] scope pos) 0 (.ref it) acc { cenv with scope := relabel scope env }) (RR acc cenv.locals) s4) (fun _ _ => False) s3) (fun _ _ => False) s :=
 compList_pre ok R' fun D C s4 o3 => by
  refine compStart_run (target := target) (iter := iter) (ifs := []) rfl rfl rfl I hA o3.rep (hβ.trans o3.view) rfl ?_
  refine codeAny_mono (compLoop_list2 (e := .ListComp elt [⟨target, iter, [], 0⟩, ⟨target2, iter2, [], 0⟩] scope pos) (cenv := fun C => compEnvC scope cl C env) (C := C) (D := D) (p0 := iter.pos) (p1 := iter2.pos) (pi := iter2.pos) rfl (by
   conv => rhs; simp only [bind_assoc, pure_bind]
   rfl) (fun _ => by rfl) (fun _ _ => rfl) (fun _ => rfl) (fun _ _ => rfl) (fun _ _ => rfl) (fun _ _ _ => rfl) ht ht2 (hs C) hturn hl List.length_replicate I hneed hA o3.rep (hβ.trans o3.view)) (fun r s' ⟨er, vs, _, o⟩ => ?_)
  subst er
  exact hRR D C vs s' (o3.trans o)
theorem drop_C {σ' : Store} {s' : Shared} {C : Addr} {ns : List Str} {vs : List (Option PV)} (o : Out c σ s ((C, .loc ns vs) :: σ') s') : ∃ m, s'.heap.Ns C m /\ ∀ h', Heap.SameBut C s'.heap h' -> Out c σ s σ' { s' with heap := h' } := by
 obtain ⟨m, hn, _⟩ := o.rep.loc (.head _)
 refine ⟨m, hn, fun h' hs => ?_⟩
 have o2 := o.perm_r (σ₂ := σ' ++ [(C, .loc ns vs)]) (List.perm_append_comm (l₁ := σ') (l₂ := [(C, Cell.loc ns vs)]))
 exact o2.trans (o2.rep.grow (τ := [_]) (fun b x hb e => by rw [hs.2 b (fun q => hb (by rw [q]; exact .head _))]; exact e) (Nat.le_refl _))
inductive Kcm (c : Cx) (ce : Addr -> Env) (target elt : PySem.Expr) (ifs : List PySem.Expr) (ns : List Str) (Q : PV -> Store -> Prop) (p : PV) (σ : Store) : Prop
 | mk (l : List PV) (need : Store -> Prop) (t : PV -> Bool) (f : PV -> PV) (h : Itb c p σ l need) (n : ∀ σ', (∀ x ∈ σ, x ∈ σ') -> need σ') (z : l.length <= sizeLine) (u : Turn c ce target elt ifs ns σ l t f) (q : Q (.lst ((l.filter t).map f)) σ) : Kcm c ce target elt ifs ns Q p σ
inductive Kxc (c : Cx) (ce : Addr -> Env) (target elt : PySem.Expr) (ifs : List PySem.Expr) (ns : List Str) (L : Addr) (ns₀ : List Str) (y : Str) (N : Store -> Prop) (p : PV) (σ : Store) : Prop
 | mk (l : List PV) (need : Store -> Prop) (t : PV -> Bool) (f : PV -> PV) (vs₀ : List (Option PV)) (vs₀' : Addr -> List (Option PV)) (τ : Store) (h : Itb c p σ l need) (n : ∀ σ', (∀ x ∈ σ, x ∈ σ') -> need σ') (z : l.length <= sizeLine) (u : Turn c ce target elt ifs ns σ l t f)
   (e : σ = (L, .loc ns₀ vs₀) :: τ) (q : ∀ D, Su y (.raw (.ref D)) ns₀ vs₀ (vs₀' D) /\ N (((L, .loc ns₀ (vs₀' D)) :: τ) ++ [(D, .list ((l.filter t).map f))])) : Kxc c ce target elt ifs ns L ns₀ y N p σ
inductive Kc2m (c : Cx) (ce : Addr -> Env) (target target₂ iter₂ elt : PySem.Expr) (ns : List Str) (Q : PV -> Store -> Prop) (p : PV) (σ : Store) : Prop
 | mk (l : List PV) (need : Store -> Prop) (g : PV -> List PV) (h : Itb c p σ l need) (n : ∀ σ', (∀ x ∈ σ, x ∈ σ') -> need σ') (z : (l.flatMap g).length <= sizeLine) (u : Turn2 c ce target target₂ iter₂ elt ns σ l g) (q : Q (.lst (l.flatMap g)) σ) : Kc2m c ce target target₂ iter₂ elt ns Q p σ
inductive Kxc2 (c : Cx) (ce : Addr -> Env) (target target₂ iter₂ elt : PySem.Expr) (ns : List Str) (L : Addr) (ns₀ : List Str) (y : Str) (N : Store -> Prop) (p : PV) (σ : Store) : Prop
 | mk (l : List PV) (need : Store -> Prop) (g : PV -> List PV) (vs₀ : List (Option PV)) (vs₀' : Addr -> List (Option PV)) (τ : Store) (h : Itb c p σ l need) (n : ∀ σ', (∀ x ∈ σ, x ∈ σ') -> need σ') (z : (l.flatMap g).length <= sizeLine) (u : Turn2 c ce target target₂ iter₂ elt ns σ l g)
   (e : σ = (L, .loc ns₀ vs₀) :: τ) (q : ∀ D, Su y (.raw (.ref D)) ns₀ vs₀ (vs₀' D) /\ N (((L, .loc ns₀ (vs₀' D)) :: τ) ++ [(D, .list (l.flatMap g))])) : Kxc2 c ce target target₂ iter₂ elt ns L ns₀ y N p σ
theorem E.comp {elt target iter : PySem.Expr} {ifs : List PySem.Expr} {scope : Scope} {pos : Pos} {cl : List (Str × Addr)} {ns : List Str} (ok : CompOk env scope cl ns)
  (h : E c env iter σ (Kcm c (fun C => compEnvC scope cl C env) target elt ifs ns Q))
  (ht : autoParam (LetsOk target) aLet) (hs : autoParam (∀ x, foldedSetIterable iter env x = pure x) aIr) :
  E c env (.ListComp elt [⟨target, iter, ifs, 0⟩] scope pos) σ Q := fun V A s hA Rp hV => by
 rw [eval_ListComp]
 refine wpAny_comprehension_free (use := Option.none) rfl hs ok.clos ok.kind ok.names (W.onr (h V) hA Rp hV (fun x s1 σ1 o1 p rp hq6 => ?_))
 obtain ⟨l, need, t, f, hit, hneed, hl, hturn, q⟩ := hq6
 refine wpAny_mono (hit A s1 x hA o1.rep rp) (fun itv s2 hq7 => ?_) fun _ _ e => e.elim
 obtain ⟨it, St, e, o2, I⟩ := hq7
 subst e
 refine compList_core ok ht hturn hl I hneed hA o2.rep (.refl _) fun D C vs s' o3 => ?_
 show ∃ m, s'.heap.Ns C m /\ _
 obtain ⟨m, hn, hd⟩ := drop_C (vs := vs) (ns := ns) (C := C) (σ' := σ1 ++ [(D, .list ((l.filter t).map f))]) ((o1.trans o2).trans (by simpa using o3))
 refine ⟨m, hn, fun h' hs => ?_⟩
 obtain ⟨o4, r⟩ := (hd h' hs).freeze
 exact ⟨σ1, o4, _, r, q⟩
theorem E.comp2 {elt target target2 iter iter2 : PySem.Expr} {scope : Scope} {pos : Pos} {cl : List (Str × Addr)} {ns : List Str} (ok : CompOk env scope cl ns)
  (h : E c env iter σ (Kc2m c (fun C => compEnvC scope cl C env) target target2 iter2 elt ns Q))
  (ht : autoParam (LetsOk target) aLet) (ht2 : autoParam (LetsOk target2) aLet)
  (hs : autoParam (∀ x, foldedSetIterable iter env x = pure x) aIr) (hs2 : autoParam (∀ C x, foldedSetIterable iter2 (compEnvC scope cl C env) x = pure x) aIir) :
  E c env (.ListComp elt [⟨target, iter, [], 0⟩, ⟨target2, iter2, [], 0⟩] scope pos) σ Q := fun V A s hA Rp hV => by
 rw [eval_ListComp]
 refine wpAny_comprehension_free (use := Option.none) rfl hs ok.clos ok.kind ok.names (W.onr (h V) hA Rp hV (fun x s1 σ1 o1 p rp hq8 => ?_))
 obtain ⟨l, need, g, hit, hneed, hl, hturn, q⟩ := hq8
 refine wpAny_mono (hit A s1 x hA o1.rep rp) (fun itv s2 hq9 => ?_) fun _ _ e => e.elim
 obtain ⟨it, St, e, o2, I⟩ := hq9
 subst e
 refine compList2_core ok ht ht2 hs2 hturn hl I hneed hA o2.rep (.refl _) fun D C vs s' o3 => ?_
 show ∃ m, s'.heap.Ns C m /\ _
 obtain ⟨m, hn, hd⟩ := drop_C (vs := vs) (ns := ns) (C := C) (σ' := σ1 ++ [(D, .list (l.flatMap g))]) ((o1.trans o2).trans (by simpa using o3))
 refine ⟨m, hn, fun h' hs => ?_⟩
 obtain ⟨o4, r⟩ := (hd h' hs).freeze
 exact ⟨σ1, o4, _, r, q⟩
theorem use_store {L C D : Addr} {ns0 ns : List Str} {vs0 vs0' vs : List (Option PV)} {y : Str} {py : Pos} {τ : Store} {r : List PV} {σ1 : Store} {s1 s' : Shared} {A : Around} (hL : Lo env ns0) (hl : env.locals = L) (p : PV)
  (hp : VR (vw c.F (((C, .loc ns vs) :: (L, .loc ns0 vs0) :: τ) ++ [(D, .list r)]) s') p (.ref D)) (hsu : Su y p ns0 vs0 vs0')
  (hA : AOk c A) (o : Out c σ1 s1 (((C, .loc ns vs) :: (L, .loc ns0 vs0) :: τ) ++ [(D, .list r)]) s')
  {Qf : Flow -> Shared -> Prop} (hQ : ∀ s'', Out c σ1 s1 (((L, .loc ns0 vs0') :: τ) ++ [(D, .list r)]) s'' -> Qf .next s'') :
  wpAny c.M A (PySem.assign (.Name y py) env (.ref D)) (fun _ s'' => ∃ m, s''.heap.Ns C m /\ ∀ h', Heap.SameBut C s''.heap h' -> Qf .next { s'' with heap := h' }) (fun _ _ => False) s' := by
 subst hl
 obtain ⟨i, a, b⟩ := hsu.idx
 subst b
 refine wpAny_assign_Name (W.on (W.store (c := c) (Q := fun _ _ σ' => σ' = ((C, .loc ns vs) :: (env.locals, .loc ns0 (vs0.set i (some p))) :: τ) ++ [(D, .list r)]) i hL a hp (.tail .head) (fun _ _ => rfl)) hA o.rep (.refl _) (fun _ s2 σ₂ o2 e => ?_))
 subst e
 obtain ⟨m, hn, hd⟩ := drop_C (σ' := ((env.locals, .loc ns0 (vs0.set i (some p))) :: τ) ++ [(D, .list r)]) (vs := vs) (ns := ns) (C := C) (o.trans (by simpa using o2))
 exact ⟨m, hn, fun h' hs => hQ _ (hd h' hs)⟩
theorem X.comp {elt target iter : PySem.Expr} {ifs : List PySem.Expr} {scope : Scope} {y : Str} {py pos spos : Pos} {cl : List (Str × Addr)} {ns0 ns : List Str} {L : Addr} (ok : CompOk env scope cl ns) (hL : Lo env ns0) (hll : env.locals = L)
  (h : E c env iter σ (Kxc c (fun C => compEnvC scope cl C env) target elt ifs ns L ns0 y N))
  (hsw : autoParam (swapsWith (.ListComp elt [⟨target, iter, ifs, 0⟩] scope pos) (some (.Name y py)) spos.line env = pure true) aRfl)
  (ht : autoParam (LetsOk target) aLet) (hs : autoParam (∀ x, foldedSetIterable iter env x = pure x) aIr) :
  X c env (.Assign [.Name y py] (.ListComp elt [⟨target, iter, ifs, 0⟩] scope pos) spos) σ N R := fun V A s hA Rp hV => by
 rw [exec_Assign_Name_used _ _ _ _ hsw]
 refine wb (wpAny_standAt (wb ?_))
 show wpAny _ A (do let _ <- comprehension (.ListComp elt [⟨target, iter, ifs, 0⟩] scope pos) scope env _ (newList []) false (eval iter env) (some (PySem.assign (.Name y py) env))) _ _ s
 refine wb (wm (wpAny_comprehension_free (use := some (PySem.assign (.Name y py) env)) (Q := fun _ s' => Ends c σ s (flow N R .next) s') rfl hs ok.clos ok.kind ok.names
  (W.onr (h V) hA Rp hV (fun x s1 σ1 o1 p rp hz1 => ?_))) (fun _ s' hq => wq (wq hq)))
 obtain ⟨l, need, t, f, vs0, vs0', τ, hit, hneed, hl, hturn, e1, hN⟩ := hz1
 subst e1
 refine wpAny_mono (hit A s1 x hA o1.rep rp) (fun itv s2 hq11 => ?_) fun _ _ e => e.elim
 obtain ⟨it, St, e, o2, I⟩ := hq11
 subst e
 refine compList_core ok ht hturn hl I hneed hA o2.rep (.refl _) fun D C vs s' o3 => ?_
 exact use_store (Qf := fun fl s' => Ends c σ s (flow N R fl) s') hL hll (.raw (.ref D)) (.raw _) (hN D).1 hA ((o1.trans o2).trans o3) fun s'' o => ⟨_, o, (hN D).2⟩
theorem X.comp2 {elt target target2 iter iter2 : PySem.Expr} {scope : Scope} {y : Str} {py pos spos : Pos} {cl : List (Str × Addr)} {ns0 ns : List Str} {L : Addr} (ok : CompOk env scope cl ns) (hL : Lo env ns0) (hll : env.locals = L)
  (h : E c env iter σ (Kxc2 c (fun C => compEnvC scope cl C env) target target2 iter2 elt ns L ns0 y N))
  (hsw : autoParam (swapsWith (.ListComp elt [⟨target, iter, [], 0⟩, ⟨target2, iter2, [], 0⟩] scope pos) (some (.Name y py)) spos.line env = pure true) aRfl)
  (ht : autoParam (LetsOk target) aLet) (ht2 : autoParam (LetsOk target2) aLet)
  (hs : autoParam (∀ x, foldedSetIterable iter env x = pure x) aIr) (hs2 : autoParam (∀ C x, foldedSetIterable iter2 (compEnvC scope cl C env) x = pure x) aIir) :
  X c env (.Assign [.Name y py] (.ListComp elt [⟨target, iter, [], 0⟩, ⟨target2, iter2, [], 0⟩] scope pos) spos) σ N R := fun V A s hA Rp hV => by
 rw [exec_Assign_Name_used _ _ _ _ hsw]
 refine wb (wpAny_standAt (wb ?_))
 show wpAny _ A (do let _ <- comprehension (.ListComp elt [⟨target, iter, [], 0⟩, ⟨target2, iter2, [], 0⟩] scope pos) scope env _ (newList []) false (eval iter env) (some (PySem.assign (.Name y py) env))) _ _ s
 refine wb (wm (wpAny_comprehension_free (use := some (PySem.assign (.Name y py) env)) (Q := fun _ s' => Ends c σ s (flow N R .next) s') rfl hs ok.clos ok.kind ok.names
  (W.onr (h V) hA Rp hV (fun x s1 σ1 o1 p rp hz1 => ?_))) (fun _ s' hq => wq (wq hq)))
 obtain ⟨l, need, g, vs0, vs0', τ, hit, hneed, hl, hturn, e1, hN⟩ := hz1
 subst e1
 refine wpAny_mono (hit A s1 x hA o1.rep rp) (fun itv s2 hq13 => ?_) fun _ _ e => e.elim
 obtain ⟨it, St, e, o2, I⟩ := hq13
 subst e
 refine compList2_core ok ht ht2 hs2 hturn hl I hneed hA o2.rep (.refl _) fun D C vs s' o3 => ?_
 exact use_store (Qf := fun fl s' => Ends c σ s (flow N R fl) s') hL hll (.raw (.ref D)) (.raw _) (hN D).1 hA ((o1.trans o2).trans o3) fun s'' o => ⟨_, o, (hN D).2⟩
theorem Xs.nodup {e : List Stmt} (h : (addrs σ).Nodup -> Xs c env e σ N R) : Xs c env e σ N R := fun V A s hA Rp hV => h Rp.nodup V A s hA Rp hV
theorem Cc.nodup {f : Value} {ps : List PV} (h : (addrs σ).Nodup -> Cc c f ps σ Q) : Cc c f ps σ Q := fun V vs hv A s hA Rp hV => h Rp.nodup V vs hv A s hA Rp hV
noncomputable def LV (c : Cx) (σ : Store) (p : PV) (l : List PV) : Prop := ∀ s v, Rep c σ s -> VR (vw c.F σ s) p v -> ∃ a vs n, v = .ref a /\ s.heap.get? a = some (seqObj "list" vs.toArray n) /\ VRs (vw c.F σ s) l vs
theorem LV.lst {l : List PV} : LV c σ (.lst l) l := fun s v R hv => by
 obtain ⟨a, vs, n, rfl, e, rv⟩ := hv.inv_lst
 exact ⟨a, vs, n, rfl, (vw_some.mp e).2.2, rv⟩
theorem LV.list {a : Addr} {l : List PV} (h : (a, Cell.list l) ∈ σ) : LV c σ (.raw (.ref a)) l := fun s v R hv => by
 have := hv.inv_raw
 subst this
 obtain ⟨o, e, vs, n, rfl, rv⟩ := R.cells _ h
 exact ⟨a, vs, n, rfl, e, rv⟩
theorem slicePick_from' (vs : List Value) (a : Nat) : slicePick vs.toArray (some (a : Int)) none none = (vs.drop a).toArray := PySem.slicePick_from' _ _
theorem slicePick_upto' (vs : List Value) (a : Nat) : slicePick vs.toArray none (some (a : Int)) none = (vs.take a).toArray := PySem.slicePick_upto' _ _
inductive Ky3 (c : Cx) (Q : PV -> Store -> Prop) (o : PV) (lo hi : Option Int) (σ : Store) : Prop
 | mk (l m : List PV) (e : LV c σ o l) (n : l.length <= sizeLine) (s : ∀ V vs, VRs V l vs -> ∃ ws, slicePick vs.toArray lo hi Option.none = List.toArray ws /\ VRs V m ws) (q : Q (.lst m) σ) : Ky3 c Q o lo hi σ
noncomputable abbrev Ky2 (c : Cx) (env : Env) (u : Option PySem.Expr) (Q : PV -> Store -> Prop) (o : PV) : Option Int -> Store -> Prop := fun l σ => Pt c env u σ (Ky3 c Q o l)
noncomputable abbrev Ky (c : Cx) (env : Env) (l u : Option PySem.Expr) (Q : PV -> Store -> Prop) : PV -> Store -> Prop := fun o σ => Pt c env l σ (Ky2 c env u Q o)
theorem E.slL {value : PySem.Expr} {lower upper : Option PySem.Expr} {p pos : Pos}
  (h : E c env value σ (Ky c env lower upper Q))
  (ht : autoParam (∀ o r, letTemporaryGo value o r = pure ()) aIir) : E c env (.Subscript value (.Slice lower upper Option.none p) pos) σ Q := fun V A s hA Rp hV =>
 wpAny_Subscript_list_slice (W.onr (h V) hA Rp hV (fun ov s1 σ1 o1 o ro q1 => W.on (q1 _) hA o1.rep (.refl _) (fun lv s2 σ₂ o2 ⟨l, il, q2⟩ => W.on (q2 _) hA o2.rep (.refl _) (fun uv s3 σ3 o3 hq2 => by
  obtain ⟨u, iu, L, m, hL, hz, hp, q⟩ := hq2
  obtain ⟨a, vs, n, rfl, e, rv⟩ := hL s3 ov o3.rep ((ro.mono o2.view).mono o3.view)
  obtain ⟨ws, ew, rw'⟩ := hp _ vs rv
  refine ⟨a, vs.toArray, l, u, rfl, seqObj_isList e, by rw [List.size_toArray, rv.length]; exact hz, il, iu, ?_⟩
  obtain ⟨o4, _⟩ := o3.rep.push_frz { cls := .type "slice", data := .fields #[lv, uv, .none] }
  obtain ⟨o5, e5⟩ := o4.rep.push_frz { cls := .type "list", data := .seq (slicePick vs.toArray l u Option.none) }
  rw [ew] at o5 e5 ⊢
  rw [Heap.size_push] at e5
  exact ⟨σ3, (((o1.trans o2).trans o3).trans o4).trans o5, .lst m, .lst e5 ((rw'.mono o4.view).mono o5.view), q⟩)))) ht
theorem VRs.slFrom {V : View} {l : List PV} {vs : List Value} (k : Nat) (h : VRs V l vs) : ∃ ws, slicePick vs.toArray (some (k : Int)) Option.none Option.none = List.toArray ws /\ VRs V (l.drop k) ws := ⟨vs.drop k, slicePick_from' vs k, h.drop k⟩
theorem VRs.slUpto {V : View} {l : List PV} {vs : List Value} (k : Nat) (h : VRs V l vs) : ∃ ws, slicePick vs.toArray Option.none (some (k : Int)) Option.none = List.toArray ws /\ VRs V (l.take k) ws := ⟨vs.take k, slicePick_upto' vs k, h.take k⟩
theorem E.slRev {value st : PySem.Expr} {p pos : Pos} (h : E c env value σ (fun o σ1 => E c env st σ1 (fun k σ₂ => k = .int (-1) /\ ∃ l, LV c σ₂ o l /\ l.length <= sizeLine /\ Q (.lst l.reverse) σ₂)))
  (ht : autoParam (∀ o r, letTemporaryGo value o r = pure ()) aIir) : E c env (.Subscript value (.Slice Option.none Option.none (some st) p) pos) σ Q := fun V A s hA Rp hV =>
 wpAny_Subscript_Slice_step (T := "list") list_getitem_lookup (W.onr (h V) hA Rp hV (fun ov s1 σ1 o1 o ro q1 => wpAny_Slice (wq (wq (W.onr (q1 _) hA o1.rep (.refl _) (fun kv s2 σ₂ o2 k rk hq3 => by
  obtain ⟨ek, L, hL, hz, q⟩ := hq3
  subst ek
  obtain ⟨t, rfl⟩ := rk.inv_int
  obtain ⟨a, vs, n, rfl, e, rv⟩ := hL s2 ov o2.rep (ro.mono o2.view)
  have hl := seqObj_isList e
  refine ⟨(hl.push _).typeIs, wpAny_getItem_list_slice (hl.push _) (Heap.IsSliceOf.new ..) .none .none (.int (-1) t) (by simp) ?_ (by rw [List.size_toArray, rv.length]; exact hz)⟩
  obtain ⟨o4, _⟩ := o2.rep.push_frz { cls := .type "slice", data := .fields #[.none, .none, .int (-1) t] }
  obtain ⟨o5, e5⟩ := o4.rep.push_frz { cls := .type "list", data := .seq (slicePick vs.toArray Option.none Option.none (some (-1))) }
  have ew := krv_pick vs.toArray
  rw [ew] at o5 e5 ⊢
  exact ⟨σ₂, ((o1.trans o2).trans o4).trans o5, .lst L.reverse, .lst e5 (by simpa using (rv.reverse.mono o4.view).mono o5.view), q⟩)))))) ht
theorem E.neg {k : Nat} {n : Int} {pos pos' : Pos} (h : Q (.int (-n)) σ) : E c env (.UnaryOp .USub (.Constant (.int n) k pos) pos') σ Q := fun V A s hA Rp hV =>
 wpAny_UnaryOp (wpAny_Constant_int (PyProof.Rows.neg_int (ret_toks (tk := s.toks + 1 + 1) Rp (by lia) (.int _ _) h)))
theorem len1 {α : Type} {l : List α} (h : l.length = 1) : ∃ a, l = [a] := List.length_eq_one_iff.mp h
theorem len2 {α : Type} {l : List α} (h : l.length = 2) : ∃ a b, l = [a, b] := by
 cases l with
 | nil => cases h
 | cons a l => exact ⟨a, (len1 (Nat.succ.inj h)).imp fun b e => congrArg (a :: ·) e⟩
theorem len3 {α : Type} {l : List α} (h : l.length = 3) : ∃ a b d, l = [a, b, d] := by
 cases l with
 | nil => cases h
 | cons a l => exact ⟨a, (len2 (Nat.succ.inj h)).imp fun b h => h.imp fun d e => congrArg (a :: ·) e⟩
noncomputable def refs (l : List (Addr × List PV)) : List PV := l.map fun p => .raw (.ref p.1)
noncomputable def lsts (l : List (Addr × List PV)) : Store := l.map fun p => (p.1, .list p.2)
noncomputable def gOf (ds : List (Addr × List PV)) : PV -> List PV
 | .raw (.ref a) => (ds.lookup a).getD []
 | _ => []
theorem lookup_mem {ds : List (Addr × List PV)} (hn : (ds.map Prod.fst).Nodup) : ∀ {p}, p ∈ ds -> ds.lookup p.1 = some p.2 := by
 induction ds with
 | nil => intro p hp; cases hp
 | cons d ds ih =>
  intro p hp
  have hn' := List.nodup_cons.mp hn
  obtain ⟨a, l⟩ := d
  rw [List.lookup_cons]
  rcases List.mem_cons.mp hp with rfl | hp
  ·simp
  ·have hne : p.1 ≠ a := fun q => hn'.1 (by rw [<- q]; exact List.mem_map.mpr ⟨p, hp, rfl⟩)
   have : (p.1 == a) = false := by simpa using hne
   rw [this]
   exact ih hn'.2 hp
theorem walk_flat {ds : List (Addr × List PV)} (hn : (ds.map Prod.fst).Nodup) : (refs ds).reverse.flatMap (gOf ds) = ds.reverse.flatMap Prod.snd := by
 unfold refs
 rw [<- List.map_reverse, List.flatMap_map]
 have : ∀ l : List (Addr × List PV), (∀ p ∈ l, p ∈ ds) -> (l.flatMap fun p => gOf ds (.raw (.ref p.1))) = l.flatMap Prod.snd := by
  intro l
  induction l with
  | nil => intro _; rfl
  | cons p l ih =>
   intro h
   rw [List.flatMap_cons, List.flatMap_cons, ih fun q hq => h q (List.mem_cons_of_mem _ hq)]
   congr 1
   show (ds.lookup p.1).getD [] = p.2
   rw [lookup_mem hn (h p List.mem_cons_self)]
   rfl
 exact this _ fun p hp => List.mem_reverse.mp hp
theorem refs_mem {ds : List (Addr × List PV)} (hn : (ds.map Prod.fst).Nodup) {q : PV} (h : q ∈ refs ds) : ∃ a, q = .raw (.ref a) /\ (a, Cell.list (gOf ds q)) ∈ lsts ds := by
 obtain ⟨p, hp, rfl⟩ := List.mem_map.mp h
 refine ⟨p.1, rfl, List.mem_map.mpr ⟨p, hp, ?_⟩⟩
 show (p.1, Cell.list p.2) = (p.1, Cell.list ((ds.lookup p.1).getD []))
 rw [lookup_mem hn hp]
 rfl
theorem lsts_addrs (ds : List (Addr × List PV)) : addrs (lsts ds) = ds.map Prod.fst := by
 unfold addrs lsts
 rw [List.map_map]
 rfl
theorem closureFor_nil {scope : Scope} {env : Env} (h : (scope.names.all fun x => decide (x.2 ≠ .free)) = true) : closureFor scope env = pure [] :=
 closureFor_none fun x hx => by simpa using List.all_eq_true.mp h x hx
theorem CompOk.of {scope : Scope} {ns : List Str} {cl : List (Str × Addr)} (h0 : closureFor scope env = pure cl)
  (h1 : (scope.names.all fun x => decide (x.2 ≠ .cell) && (decide (x.2 ≠ .local) || (scope.names.lookup x.1 == some .local))) = true) (hk : scope.kind = .function)
  (h2 : (ns.all fun x => (relabel scope env).names.lookup x == some .local && !(x == ("__debug__" : Str))) = true) (hn : ns.Nodup) (hk' : (relabel scope env).kind = .function) : CompOk env scope cl ns where
 clos := h0
 cell := fun x hx => by
  have := List.all_eq_true.mp h1 x hx
  rw [Bool.and_eq_true] at this
  simpa using this.1
 kind := hk
 names := fun x hx hl => by
  have := List.all_eq_true.mp h1 x hx
  rw [Bool.and_eq_true, Bool.or_eq_true] at this
  rcases this.2 with h | h
  ·simp [hl] at h
  ·exact beq_iff_eq.mp h
 lo := fun C => ⟨hk', fun x hx => by
   have := List.all_eq_true.mp h2 x hx
   rw [Bool.and_eq_true] at this
   exact beq_iff_eq.mp this.1, hn, fun x hx => by
   have := List.all_eq_true.mp h2 x hx
   rw [Bool.and_eq_true] at this
   simpa using this.2⟩
end
noncomputable def fd166 : FuncData := getFd (a := 166) rfl
noncomputable def bd166 : List Stmt := getBody (fd := fd166) rfl
theorem at166 (P : Params) : FnAt P 166 fd166 := by kernel_rfl
theorem ok166 : FnOk fd166 ["stack"] [] bd166 := ⟨rfl, rfl, rfl, rfl, by decide +kernel, by decide, by decide +kernel⟩
theorem cd166 (P : Params) : codeIn (KK P) fd166.code fd166.qualname = true := by kernel_rfl
theorem Ca166 {c : Cx} (B : Base c) (hd : c.d < recursionLimit) {D : Addr} {ds : List (Addr × List PV)} {σ : Store} {Q : PV -> Store -> Prop} (hD : (D, .list (refs ds)) ∈ σ) (hl : ∀ p ∈ lsts ds, p ∈ σ) (hz : ds.length <= sizeLine) (hz2 : (ds.reverse.flatMap Prod.snd).length <= sizeLine)
  (hn : (ds.map Prod.fst).Nodup) (h : Q (.lst (ds.reverse.flatMap Prod.snd)) σ) : Ca c (.ref 166) [.raw (.ref D)] σ Q :=
 Ca.fn B (at166 _) ok166 (cd166 _) hd (fun s V vals _ hv => ⟨vals, by obtain ⟨v, _, rfl, _, hv⟩ := hv.inv_cons; rw [hv.inv_nil]; exact BindsTo.of_eq rfl, hv⟩) rfl (fun L hL => by
  refine Xs.cons (X.return (E.comp2 (ns := ["level", "pair"]) (CompOk.of (closureFor_nil (by decide +kernel)) (by decide +kernel) rfl (by kernel_rfl) (by decide) rfl) (E.slRev (E.lk hL (.head _) .head (E.neg ⟨rfl, refs ds, .list (.tail _ hD), by unfold refs; rw [lnM]; exact hz, ?_⟩)))))
  refine ⟨(refs ds).reverse, _, gOf ds, Itb.lst, fun _ _ => trivial, by rw [walk_flat hn]; exact hz2, ?_, by rw [walk_flat hn]; exact ⟨σ, .cons _ (.refl _), h⟩⟩
  intro F β' hb C q vs hq hvs
  obtain ⟨a, b, rfl⟩ := len2 hvs
  refine Asg.name (CompOk.lo (CompOk.of (closureFor_nil (by decide +kernel)) (by decide +kernel) rfl (by kernel_rfl) (by decide) rfl) C) rfl .head ⟨_, rfl, rfl, ?_, ?_⟩
  ·refine E.lk (CompOk.lo (CompOk.of (closureFor_nil (by decide +kernel)) (by decide +kernel) rfl (by kernel_rfl) (by decide) rfl) C) (.head _) .head ⟨rfl, ?_⟩
   obtain ⟨a', rfl, hm⟩ := refs_mem hn (List.mem_reverse.mp hq)
   exact .inr ⟨a', rfl, .tail _ (hl _ hm)⟩
  ·intro F2 β2 hb2 C2 q2 vs2 hq2 hvs2
   obtain ⟨a2, b2, rfl⟩ := len2 hvs2
   refine Asg.name (CompOk.lo (CompOk.of (closureFor_nil (by decide +kernel)) (by decide +kernel) rfl (by kernel_rfl) (by decide) rfl) C2) rfl (.tail .head) ⟨_, rfl, rfl, fun V => tests_nil fun _ _ => ⟨rfl, rfl⟩, fun _ => ?_⟩
   exact E.lk (CompOk.lo (CompOk.of (closureFor_nil (by decide +kernel)) (by decide +kernel) rfl (by kernel_rfl) (by decide) rfl) C2) (.head _) (.tail .head) ⟨rfl, rfl⟩)
section
variable {c : Cx} {env : Env} {σ σ' : Store} {s : Shared} {Q : PV -> Store -> Prop} {N : Store -> Prop} {R : PV -> Store -> Prop}
theorem Rep.sysne (R : Rep c σ s) {a : Addr} {x : Cell} (h : (a, x) ∈ σ) : (a == sysModules) = false := by
 have : a ≠ sysModules := fun q => R.sys (by rw [<- q]; exact List.mem_map.mpr ⟨(a, x), h, rfl⟩)
 simpa using this
theorem Rep.dictAt (R : Rep c σ s) {a : Addr} {l : List (Str × PV)} (h : (a, Cell.dict l) ∈ σ) : ∃ kvs, s.heap.DictOf (PySem.strKind c.prog c.w) a kvs /\ KVs (vw c.F σ s) l kvs := by
 obtain ⟨o, e, kvs, hd, hk⟩ := R.cells _ h
 exact ⟨kvs, Heap.dictOf_iff.mpr ⟨o, e, hd⟩, hk⟩
theorem KVs.length {V : View} {l : List (Str × PV)} {kvs : List (Str × Value)} (h : KVs V l kvs) : kvs.length = l.length :=
 h.rec (motive := fun l kvs _ => kvs.length = l.length) rfl fun _ _ e => congrArg (· + 1) e
theorem KVs.at {V : View} {k : Str} {l : List (Str × PV)} {kvs : List (Str × Value)} (h : KVs V l kvs) : (l.lookup k = none /\ valueAt kvs k = none) \/ ∃ p v, l.lookup k = some p /\ valueAt kvs k = some v /\ VR V p v := by
 induction h with
 | nil => exact .inl ⟨rfl, rfl⟩
 | @cons k' p v l es r t ih =>
  by_cases e : k' = k
  ·subst e
   exact .inr ⟨p, v, by simp, by simp [valueAt], r⟩
  ·have e1 : (k == k') = false := by simpa using fun q => e q.symm
   rw [List.lookup_cons, e1, show valueAt ((k', v) :: es) k = valueAt es k by simp [valueAt, e]]
   exact ih
noncomputable def sto (l : List (Str × PV)) (k : Str) (p : PV) : List (Str × PV) := if l.any (fun x => x.1 = k) then l.map (fun x => if x.1 = k then (x.1, p) else x) else l ++ [(k, p)]
theorem KVs.any {V : View} {k : Str} {l : List (Str × PV)} {kvs : List (Str × Value)} (h : KVs V l kvs) : (kvs.any fun kv => decide (kv.1 = k)) = l.any fun x => decide (x.1 = k) :=
 h.rec (motive := fun l kvs _ => (kvs.any fun kv => decide (kv.1 = k)) = l.any fun x => decide (x.1 = k)) rfl fun _ _ e => congrArg (_ || ·) e
theorem KVs.mapPut {V : View} {k : Str} {p : PV} {v : Value} (h : VR V p v) {l : List (Str × PV)} {kvs : List (Str × Value)} (hk : KVs V l kvs) : KVs V (l.map fun x => if x.1 = k then (x.1, p) else x) (kvs.map fun kv => if kv.1 = k then (kv.1, v) else kv) := by
 induction hk with
 | nil => exact .nil
 | @cons k' _ _ _ _ r t ih =>
  rw [List.map_cons, List.map_cons]
  by_cases e : k' = k
  ·rw [if_pos e, if_pos e]; exact .cons h ih
  ·rw [if_neg e, if_neg e]; exact .cons r ih
theorem KVs.append {V : View} {k : Str} {p : PV} {v : Value} (h : VR V p v) {l : List (Str × PV)} {kvs : List (Str × Value)} (hk : KVs V l kvs) : KVs V (l ++ [(k, p)]) (kvs ++ [(k, v)]) := by
 induction hk with
 | nil => exact .cons h .nil
 | cons r t ih => exact .cons r ih
theorem KVs.sto {V : View} {k : Str} {p : PV} {v : Value} (h : VR V p v) {l : List (Str × PV)} {kvs : List (Str × Value)} (hk : KVs V l kvs) : KVs V (sto l k p) (stored kvs k v) := by
 unfold Mine.sto stored
 rw [hk.any]
 split
 ·exact hk.mapPut h
 ·exact hk.append h
theorem Cmp.in_dict {a : Addr} {k : Str} {l : List (Str × PV)} (hm : (a, Cell.dict l) ∈ σ) (h : Q (.bool (l.lookup k).isSome) σ) : Cmp c .In (.str k) (.raw (.ref a)) σ Q := fun V va vb ra rb A s hA R hV => by
 obtain ⟨t, rfl⟩ := ra.inv_str
 have := rb.inv_raw
 subst this
 obtain ⟨kvs, hd, hk⟩ := R.dictAt hm
 refine wpAny_in_of (knd := PySem.strKind c.prog c.w) (strKind_is _ _ _ _) (R.sysne hm) hd.mapOf (ret_toks R (Nat.le_succ _) ?_ h)
 rcases hk.at (k := k) with ⟨e1, e2⟩ | ⟨p, v, e1, e2, _⟩ <;> rw [e1, e2] <;> exact .bool _
theorem It.dict {a : Addr} {k : Str} {l : List (Str × PV)} {p : PV} (hm : (a, Cell.dict l) ∈ σ) (hk : l.lookup k = some p) (h : Q p σ) : It c (.raw (.ref a)) (.str k) σ Q := by
 refine ⟨"dict", _, slot_dict_getitem.lookup, HasT.dict hm, fun V va vb ra rb A s hA R hV => ?_⟩
 have := ra.inv_raw
 subst this
 obtain ⟨t, rfl⟩ := rb.inv_str
 obtain ⟨kvs, hd, hkv⟩ := R.dictAt hm
 rcases hkv.at (k := k) with ⟨e1, e2⟩ | ⟨p', v, e1, e2, r⟩
 ·rw [hk] at e1; cases e1
 ·have : p = p' := Option.some.inj (hk.symm.trans e1)
  subst this
  exact wpAny_getItem_of (knd := PySem.strKind c.prog c.w) (strKind_is _ _ _ _) hd.mapOf e2 (ret_toks R (Nat.le_succ _) (r.mono (view_toks (Nat.le_succ _))) h)
theorem SetI.dict {a : Addr} {k : Str} {l : List (Str × PV)} {p : PV} (U : Up a (.dict l) (.dict (sto l k p)) σ σ') (hz : l.length <= sizeLine) (h : N σ') : SetI c (.raw (.ref a)) (.str k) p σ N := fun V vo vi vp ro ri rp A s hA R hV => by
 have := ro.inv_raw
 subst this
 obtain ⟨t, rfl⟩ := ri.inv_str
 obtain ⟨kvs, hd, hkv⟩ := R.dictAt U.mem
 refine wpAny_setItem_pairs (knd := PySem.strKind c.prog c.w) (strKind_is _ _ _ _) hd (fun h' hd' hs => ?_) (by rw [hkv.length]; exact hz)
 obtain ⟨o, e, ho⟩ := Heap.dictOf_iff.mp hd'
 exact ⟨σ', R.upd (tk := s.toks + 1) U hs e ⟨_, ho, hkv.sto (rp.mono hV)⟩ (Nat.le_succ _), h⟩
theorem Tr.dict' {a : Addr} {l : List (Str × PV)} {Q : Bool -> Store -> Prop} (hm : (a, Cell.dict l) ∈ σ) (hl : l.length <= sizeLine) (h : Q (!l.isEmpty) σ) : Tr c (.raw (.ref a)) σ Q := fun V va ra A s hA R hV => by
 have := ra.inv_raw
 subst this
 obtain ⟨kvs, hd, hkv⟩ := R.dictAt hm
 rw [sizeLine_eq] at hl
 refine wpAny_truthy_dict (R.sysne hm) hd (by rw [hkv.length]; lia) ⟨σ, .toks R _ (by lia), ?_⟩
 have : kvs.isEmpty = l.isEmpty := by
  have := hkv.length
  cases kvs <;> cases l <;> simp_all
 rw [this]; exact h
theorem E.dict0 {pos : Pos} {p : Addr × Cell} {τ : Store} (he : σ = p :: τ) (h : ∀ a, Q (.raw (.ref a)) (p :: (a, .dict []) :: τ)) : E c env (.Dict [] [] pos) σ Q := fun V A s hA R hV => by
 subst he
 exact wpAny_Dict_empty ⟨_, R.newAt { cls := .type "dict", data := .dict #[] } (.dict []) ⟨[], (Heap.dictOf_iff.mp (Heap.DictOf.new (knd := PySem.strKind c.prog c.w) s.heap)).elim fun o hq1 => by
  obtain ⟨e, ho⟩ := hq1
  rw [Heap.get?_push_size _ rfl] at e
  cases e
  exact ho, .nil⟩, _, .raw _, h _⟩
theorem Rep.setAt (R : Rep c σ s) {a : Addr} {S : Str -> Bool} {n : Nat} (hb : n < scanBound) (h : (a, Cell.set S n) ∈ σ) : s.heap.SetOf (PySem.strKind c.prog c.w) a S n := by
 obtain ⟨o, e, hs⟩ := R.cells _ h
 exact hs.setOf e hb
theorem Cmp.notin_set {a : Addr} {S : Str -> Bool} {n : Nat} {k : Str} (hm : (a, Cell.set S n) ∈ σ) (hb : n < scanBound) (h : Q (.bool !(S k)) σ) : Cmp c .NotIn (.str k) (.raw (.ref a)) σ Q := fun V va vb ra rb A s hA R hV => by
 obtain ⟨t, rfl⟩ := ra.inv_str
 have := rb.inv_raw
 subst this
 exact wpAny_notInSet_of (knd := PySem.strKind c.prog c.w) (strKind_is _ _ _ _) rfl (R.setAt hb hm) (ret_toks R (Nat.le_succ _) (.bool _) h)
theorem Gm.setadd {a : Addr} {S : Str -> Bool} {n : Nat} {pl : Sem Bool} {K : Value -> List PV -> Store -> Prop} (hm : (a, Cell.set S n) ∈ σ) (hb : n < scanBound) (h : K (.builtin "set.add") [.raw (.ref a)] σ) : Gm c (.raw (.ref a)) "add" pl σ K := fun V va ra A s hA R hV => by
 have := ra.inv_raw
 subst this
 exact getMethod_set_add (R.setAt hb hm) ⟨σ, .refl R, _, .cons (.raw _) .nil, h⟩
theorem Ca.setadd {a : Addr} {S : Str -> Bool} {n : Nat} {k : Str} (U : Up a (.set S n) (.set (fun k' => S k' || decide (k' = k)) (if S k then n else n + 1)) σ σ') (hb : n + 1 < scanBound) (h : Q .none σ') : Ca c (.builtin "set.add") [.raw (.ref a), .str k] σ Q := fun V vs hv A s hA R hV => by
 obtain ⟨v, _, rfl, r, hv1⟩ := hv.inv_cons
 obtain ⟨w, _, rfl, rw', hv2⟩ := hv1.inv_cons
 have := r.inv_raw
 subst this
 have e0 := hv2.inv_nil
 subst e0
 obtain ⟨t, rfl⟩ := rw'.inv_str
 refine call_set_add (knd := PySem.strKind c.prog c.w) (strKind_is _ _ _ _) rfl (R.setAt (by lia) U.mem) hb fun h' hs hS => ?_
 obtain ⟨o, e, ho⟩ := hS.objOf
 exact ⟨σ', R.upd (tk := s.toks + 1) U hs e ho (Nat.le_succ _), .none, .none, h⟩
theorem Ca.set0 {p : Addr × Cell} {τ : Store} (he : σ = p :: τ) (h : ∀ a, Q (.raw (.ref a)) (p :: (a, .set (fun _ => false) 0) :: τ)) : Ca c (.type "set") [] σ Q := fun V vs hv A s hA R hV => by
 subst he
 have e0 := hv.inv_nil
 subst e0
 exact call_set_0 fun led => ⟨_, R.newAt { cls := .type "set", dict := none, data := .set #[] 0 (.fresh 0 0 led) } (.set (fun _ => false) 0) (setObjOf_fresh led), _, .raw _, h _⟩
theorem Ca.len_dict {a : Addr} {l : List (Str × PV)} (hm : (a, Cell.dict l) ∈ σ) (hl : l.length <= sizeLine) (h : Q (.int l.length) σ) : Ca c (.builtin "len") [.raw (.ref a)] σ Q := fun V vs hv A s hA R hV => by
 obtain ⟨v, _, rfl, r, hv1⟩ := hv.inv_cons
 have := r.inv_raw
 subst this
 have e0 := hv1.inv_nil
 subst e0
 obtain ⟨kvs, hd, hkv⟩ := R.dictAt hm
 rw [sizeLine_eq] at hl
 exact call_len_dict (R.sysne hm) hd (by rw [hkv.length]; lia) (ret_toks (p := .int l.length) R (by lia) (by rw [hkv.length]; exact .int _ _) h)
theorem Ca.len_list {p : PV} {l : List PV} (hL : LV c σ p l) (hl : l.length <= sizeLine) (h : Q (.int l.length) σ) : Ca c (.builtin "len") [p] σ Q := fun V vs hv A s hA R hV => by
 obtain ⟨v, _, rfl, r, hv1⟩ := hv.inv_cons
 have e0 := hv1.inv_nil
 subst e0
 obtain ⟨a, ws, n, rfl, e, rv⟩ := hL s v R (r.mono hV)
 rw [sizeLine_eq] at hl
 exact call_len_list (seqObj_isList e) (by rw [List.size_toArray, rv.length]; lia) (ret_toks (p := .int l.length) R (by lia) (by rw [List.size_toArray, rv.length]; exact .int _ _) h)
theorem Ca.len_str {x : Str} (hl : x.length <= sizeLine) (h : Q (.int x.length) σ) : Ca c (.builtin "len") [.str x] σ Q := fun V vs hv A s hA R hV => by
 obtain ⟨v, _, rfl, r, hv1⟩ := hv.inv_cons
 have e0 := hv1.inv_nil
 subst e0
 obtain ⟨t, rfl⟩ := r.inv_str
 rw [sizeLine_eq] at hl
 exact PySem.P.len_str (by lia) (ret_toks R (by lia) (.int _ _) h)
theorem VRs.strs {V : View} : ∀ l : List (Str × Tok), VRs V (l.map fun x => .str x.1) (strValues l)
 | [] => .nil
 | (x, t) :: l => .cons (.str x t) (VRs.strs l)
theorem Ca.rsplit {x y : Str} {k : Int} (hy : (y.length == 0) = false) (hk : (decide (k < -(2 ^ 63 : Int)) || decide (k ≥ 2 ^ 63)) = false) (hz : x.length + 2 <= sizeLine) (h : Q (.lst ((Txt.rsplitMax x y k).map .str)) σ) : Ca c (.builtin "str.rsplit") [.str x, .str y, .int k] σ Q := fun V vs hv A s hA R hV => by
 obtain ⟨v, _, rfl, r1, hv1⟩ := hv.inv_cons
 obtain ⟨v2, _, rfl, r2, hv2⟩ := hv1.inv_cons
 obtain ⟨v3, _, rfl, r3, hv3⟩ := hv2.inv_cons
 have e0 := hv3.inv_nil
 subst e0
 obtain ⟨t, rfl⟩ := r1.inv_str
 obtain ⟨u, rfl⟩ := r2.inv_str
 obtain ⟨w, rfl⟩ := r3.inv_int
 have fin : ∀ (l : List (Str × Tok)) tk, s.toks <= tk -> l.map (·.1) = Txt.rsplitMax x y k -> Ends c σ s (ret Q (.ref s.heap.objs.size)) { s with heap := s.heap.push { cls := .type "list", data := .seq (strValues l).toArray }, toks := tk } := fun l tk ht e => by
  obtain ⟨o1, e₁⟩ := R.push_frz { cls := .type "list", data := .seq (strValues l).toArray }
  have o2 := Out.toks o1.rep tk ht
  refine ⟨σ, o1.trans o2, .lst ((Txt.rsplitMax x y k).map .str), .lst (o2.view.mem _ _ e₁) ?_, h⟩
  rw [<- e, List.map_map]
  exact VRs.strs l
 cases h1 : (decide (x.length < y.length) || decide (Builtin.Str.strKind x < Builtin.Str.strKind y))
 ·cases hf : (Builtin.Str.occurrencesFromRight x y (limitOf x k)).isEmpty
  ·have hn : (Builtin.Str.partsBetween x (Builtin.Str.occurrencesFromRight x y (limitOf x k)) y.length).length <= sizeLine := by
    have e1 := StrLaws.occR_length_le_len x y (limitOf x k)
    rw [length_partsBetween]; lia
   refine call_meets F.slot_str_rsplit (typeIs_str _ _ _) F.entry_str_rsplit (F.args_str_rsplit_3 _ _ _) (meets_str_rsplit_sep_max x y k t u w hk h1 hy hf (by lia) hn) ?_
   show wants _ _ _ { s with toks := _, heap := s.heap.push { cls := .type "list", data := .seq (strsFrom s.toks (Builtin.Str.partsBetween x (Builtin.Str.occurrencesFromRight x y (limitOf x k)) y.length)).toArray } }
   rw [strsFrom_eq]
   exact fin (numbered s.toks _) _ (by lia) ((numbered_texts _ _).trans ((if_neg (ne_true_of_eq_false h1)).trans (if_neg (ne_true_of_eq_false hf))).symm)
  ·exact call_meets F.slot_str_rsplit (typeIs_str _ _ _) F.entry_str_rsplit (F.args_str_rsplit_3 _ _ _) (meets_str_rsplit_max_not_found x y k t u w hk h1 hy hf)
    (fin [(x, t)] s.toks (Nat.le_refl _) ((if_neg (ne_true_of_eq_false h1)).trans (if_pos hf)).symm)
 ·exact call_meets F.slot_str_rsplit (typeIs_str _ _ _) F.entry_str_rsplit (F.args_str_rsplit_3 _ _ _) (meets_str_rsplit_max_cannot_occur x y k t u w hk h1)
   (fin [(x, t)] s.toks (Nat.le_refl _) (if_pos h1).symm)
theorem Ca.split {x y : Str} {k : Int} (hy : (y.length == 0) = false) (hk : (decide (k < -(2 ^ 63 : Int)) || decide (k ≥ 2 ^ 63)) = false) (hz : x.length + 2 <= sizeLine) (h : Q (.lst ((Txt.splitMax x y k).map .str)) σ) : Ca c (.builtin "str.split") [.str x, .str y, .int k] σ Q := fun V vs hv A s hA R hV => by
 obtain ⟨v, _, rfl, r1, hv1⟩ := hv.inv_cons
 obtain ⟨v2, _, rfl, r2, hv2⟩ := hv1.inv_cons
 obtain ⟨v3, _, rfl, r3, hv3⟩ := hv2.inv_cons
 have e0 := hv3.inv_nil
 subst e0
 obtain ⟨t, rfl⟩ := r1.inv_str
 obtain ⟨u, rfl⟩ := r2.inv_str
 obtain ⟨w, rfl⟩ := r3.inv_int
 have fin : ∀ (l : List (Str × Tok)) tk, s.toks <= tk -> l.map (·.1) = Txt.splitMax x y k -> Ends c σ s (ret Q (.ref s.heap.objs.size)) { s with heap := s.heap.push { cls := .type "list", data := .seq (strValues l).toArray }, toks := tk } := fun l tk ht e => by
  obtain ⟨o1, e₁⟩ := R.push_frz { cls := .type "list", data := .seq (strValues l).toArray }
  have o2 := Out.toks o1.rep tk ht
  refine ⟨σ, o1.trans o2, .lst ((Txt.splitMax x y k).map .str), .lst (o2.view.mem _ _ e₁) ?_, h⟩
  rw [<- e, List.map_map]
  exact VRs.strs l
 cases h1 : (decide (x.length < y.length) || decide (Builtin.Str.strKind x < Builtin.Str.strKind y))
 ·cases hf : (Builtin.Str.occurrences x y 0 x.length (limitOf x k)).isEmpty
  ·have hn : (Builtin.Str.partsBetween x (Builtin.Str.occurrences x y 0 x.length (limitOf x k)) y.length).length <= sizeLine := by
    have e1 := StrLaws.occ_length_le_len x y 0 x.length (limitOf x k)
    rw [length_partsBetween]; lia
   refine call_meets F.slot_str_split (typeIs_str _ _ _) F.entry_str_split (F.args_str_split_3 _ _ _) (meets_str_split_sep_max x y k t u w hk h1 hy hf (by lia) hn) ?_
   show wants _ _ _ { s with toks := _, heap := s.heap.push { cls := .type "list", data := .seq (strsFrom s.toks (Builtin.Str.partsBetween x (Builtin.Str.occurrences x y 0 x.length (limitOf x k)) y.length)).toArray } }
   rw [strsFrom_eq]
   exact fin (numbered s.toks _) _ (by lia) ((numbered_texts _ _).trans ((if_neg (ne_true_of_eq_false h1)).trans (if_neg (ne_true_of_eq_false hf))).symm)
  ·exact call_meets F.slot_str_split (typeIs_str _ _ _) F.entry_str_split (F.args_str_split_3 _ _ _) (meets_str_split_max_not_found x y k t u w hk h1 hy hf)
    (fin [(x, t)] s.toks (Nat.le_refl _) ((if_neg (ne_true_of_eq_false h1)).trans (if_pos hf)).symm)
 ·exact call_meets F.slot_str_split (typeIs_str _ _ _) F.entry_str_split (F.args_str_split_3 _ _ _) (meets_str_split_max_cannot_occur x y k t u w hk h1)
   (fin [(x, t)] s.toks (Nat.le_refl _) (if_pos h1).symm)
theorem Gm.rsplit {x : Str} {pl : Sem Bool} {K : Value -> List PV -> Store -> Prop} (h : K (.builtin "str.rsplit") [.str x] σ) : Gm c (.str x) "rsplit" pl σ K := Gm.builtin HasT.str F.plainAttrs_str F.slot_str_rsplit F.type_str_rsplit h
theorem Gm.split {x : Str} {pl : Sem Bool} {K : Value -> List PV -> Store -> Prop} (h : K (.builtin "str.split") [.str x] σ) : Gm c (.str x) "split" pl σ K := Gm.builtin HasT.str F.plainAttrs_str F.slot_str_split F.type_str_split h
theorem Asg.lst {es : List PySem.Expr} {k : Nat} {pos : Pos} {ps : List PV} (h : Asgs c env es ps σ N) (hl : es.length = ps.length)
  (he : autoParam ((assignEach es env).map (·.2) = es.map (fun t => PySem.assign t env)) aRfl) (hi : autoParam ((assignEach es env).findIdx? (·.1) = Option.none) aRfl) :
  Asg c env (.Tuple es k pos) (.lst ps) σ N := fun V v hv A s hA Rp hV => by
 obtain ⟨a, vs, n, rfl, e, rv⟩ := hv.inv_lst
 have e' := (vw_some.mp (hV.mem _ _ e)).2.2
 have hlen : (assignEach es env).length = es.length := by
  have := congrArg List.length he
  simpa using this
 rw [assign_Tuple]
 refine wb (wpAny_standAt ?_)
 unfold unpack
 rw [hi, hlen, hl, <- rv.length, <- List.size_toArray]
 refine wb (wpAny_holding (kun_itemsOf hA.handled (seqObj_isList e') fun h' hk => ?_))
 have o := Rp_more Rp h' hk
 rw [he]
 exact wm (asgs_run hA es ps vs σ _ N he h o.rep (rv.mono (hV.trans o.view))) (fun _ s2 h => h.elim fun σ₂ h => ⟨σ₂, o.trans h.1, h.2⟩)
end
noncomputable abbrev U := Fin 11
noncomputable abbrev Px := Fin 20
noncomputable def US : List Str := ["", "http://www.w3.org/XML/1998/namespace", "http://www.w3.org/2001/XMLSchema", "u", "v", "w", "http://www.w3.org/1999/xhtml", "http://www.w3.org/1999/02/22-rdf-syntax-ns#", "http://schemas.xmlsoap.org/wsdl/", "http://www.w3.org/2001/XMLSchema-instance", "http://purl.org/dc/elements/1.1/"]
noncomputable def PS : List Str := ["", "xml", "xs", "p", "q", "b", "c", "e", "d", "html", "rdf", "wsdl", "xsi", "dc", "n0", "n1", "n2", "n3", "n4", "n5"]
noncomputable def uS (u : U) : Str := US.getD u.val Str.empty
noncomputable def pS (p : Px) : Str := PS.getD p.val Str.empty
noncomputable def lcS (l : Bool) : Str := if l = true then "b" else "a"
noncomputable def nmS (n : U × Bool) : Str := if n.1 = 0 then lcS n.2 else ("{" : Str) ++ uS n.1 ++ "}" ++ lcS n.2
noncomputable def wn (p : Px) (l : Bool) : Str := if p = 0 then lcS l else pS p ++ ":" ++ lcS l
noncomputable def nP (k : Nat) : Px := Fin.ofNat 20 (14 + k)
theorem uS_eq (u v : U) : (uS u == uS v) = decide (u = v) := by revert u v; decide +kernel
theorem pS_eq (u v : Px) : (pS u == pS v) = decide (u = v) := by revert u v; decide +kernel
theorem uS_inj {u v : U} (h : uS u = uS v) : u = v := by
 have := uS_eq u v
 rw [h] at this
 simpa using this.symm
theorem pS_inj {u v : Px} (h : pS u = pS v) : u = v := by
 have := pS_eq u v
 rw [h] at this
 simpa using this.symm
theorem nm_open (n : U × Bool) : (Txt.slice (nmS n) none (some 1) == ("{" : Str)) = !decide (n.1 = 0) := by
 obtain ⟨u, l⟩ := n
 have : ∀ (u : U) (l : Bool), (Txt.slice (nmS (u, l)) none (some 1) == ("{" : Str)) = !decide (u = 0) := by decide +kernel
 exact this u l
theorem nm_parts (n : U × Bool) : n.1 ≠ 0 -> Txt.rsplitMax (Txt.slice (nmS n) (some 1) none) "}" 1 = [uS n.1, lcS n.2] := by
 obtain ⟨u, l⟩ := n
 have : ∀ (u : U) (l : Bool), u ≠ 0 -> Txt.rsplitMax (Txt.slice (nmS (u, l)) (some 1) none) "}" 1 = [uS u, lcS l] := by decide +kernel
 exact this u l
theorem nm_0 (n : U × Bool) (h : n.1 = 0) : nmS n = lcS n.2 := if_pos h
theorem nm_len (n : U × Bool) : (nmS n).length <= 60 := by
 obtain ⟨u, l⟩ := n
 have : ∀ (u : U) (l : Bool), (nmS (u, l)).length <= 60 := by decide +kernel
 exact this u l
theorem uS_len (u : U) : (uS u).length <= 60 := by revert u; decide +kernel
theorem pS_len (u : Px) : (pS u).length <= 10 := by revert u; decide +kernel
theorem lc_len (l : Bool) : (lcS l).length = 1 := by revert l; decide +kernel
theorem uS_0 (u : U) : ((uS u).length != 0) = !decide (u = 0) := by revert u; decide +kernel
theorem pS_0 (u : Px) : ((pS u).length != 0) = !decide (u = 0) := by revert u; decide +kernel
theorem wn_f (p : Px) (l : Bool) : p ≠ 0 -> Str.empty ++ pS p ++ ":" ++ lcS l = wn p l := by revert p l; decide +kernel
theorem nP_f : ∀ k : Fin 6, Str.empty ++ "n" ++ (toString (k.val : Int) : Str) = pS (nP k.val) := by decide +kernel
theorem nP_ne : ∀ k : Fin 6, nP k.val ≠ 0 := by decide +kernel
theorem nm_inj {m n : U × Bool} (h : nmS m = nmS n) : m = n := by
 obtain ⟨u, l⟩ := m
 obtain ⟨v, k⟩ := n
 have : ∀ (u v : U) (l k : Bool), (nmS (u, l) == nmS (v, k)) = decide (u = v /\ l = k) := by decide +kernel
 have h2 := this u v l k
 rw [h] at h2
 have h3 : u = v /\ l = k := by simpa using h2.symm
 rw [h3.1, h3.2]
noncomputable def pr (x : U × Px) : PV := .tup [.str (uS x.1), .str (pS x.2)]
noncomputable abbrev Lv := List (Addr × List (U × Px))
noncomputable def pl (d : Lv) : List (Addr × List PV) := d.map fun x => (x.1, x.2.map pr)
structure SA where
 x : Addr
 dx : Addr
 b : Addr
 out : Addr
 data : Addr
 D : Addr
 N : Addr
 pm : Addr
 ps : Addr
structure St where
 rw : Bool
 seen : Bool
 done : Bool
 out : List Str
 data : List Str
 D : Lv
 N : Lv
 pm : List (U × Px)
 ps : List Bool
noncomputable abbrev INS : List Str := ["_write", "_data", "_with_comments", "_strip_text", "_exclude_attrs", "_exclude_tags", "_rewrite_prefixes", "_qname_aware_tags", "_find_qname_aware_attrs", "_declared_ns_stack", "_ns_stack", "_prefix_map", "_preserve_space", "_pending_start", "_root_seen", "_root_done", "_ignored_depth", "_iter_namespaces"]
noncomputable abbrev INV (a : SA) (t : St) : List PV := [.raw (.ref a.b), .raw (.ref a.data), .bool true, .bool false, .none, .none, .bool t.rw, .none, .none, .raw (.ref a.D), .raw (.ref a.N), .raw (.ref a.pm), .raw (.ref a.ps), .none, .bool t.seen, .bool t.done, .int 0, .raw (.ref 166)]
noncomputable abbrev pmL (pm : List (U × Px)) : List (Str × PV) := pm.map fun x => (uS x.1, .str (pS x.2))
noncomputable def Sf (a : SA) (t : St) : Store := (a.dx, .inst INS (INV a t)) :: (a.data, .list (t.data.map .str)) :: (a.out, .list (t.out.map .str)) :: (a.ps, .list (t.ps.map .bool)) :: (a.pm, .dict (pmL t.pm)) :: (a.D, .list (refs (pl t.D))) :: (a.N, .list (refs (pl t.N))) :: (lsts (pl t.D) ++ lsts (pl t.N))
structure Tg (c : Cx) (a : SA) : Prop where
 self : Self c a.x a.dx
 wr : c.β.mem a.b = some (bmObj "list.append" (.ref a.out))
theorem Tg.ext {c : Cx} {a : SA} (S : Tg c a) {F : List Addr} {β : View} (h : VLe c.β β) : Tg (c.ext F β) a := ⟨S.self.ext h, h.mem _ _ S.wr⟩
theorem Tg.up {c : Cx} {a : SA} (S : Tg c a) (d u : Nat) : Tg { c with d := d, u := u } a := ⟨⟨S.self.at_⟩, S.wr⟩
theorem INS_nd : INS.Nodup := by decide
theorem INS_own (P : Params) : (INS.all fun x => ownName P x) = true := by kernel_rfl
theorem INS_set (P : Params) : (INS.all fun x => decide (takerIn (KK P) TC x = some none)) = true := by
 have : ∀ x, decide (takerIn (KK P) TC x = some none) = (match takerIn (KK P) TC x with | some none => true | _ => false) := by
  intro x
  rcases takerIn (KK P) TC x with _ | _ | _ <;> simp
 simp only [this]
 kernel_rfl
inductive Li : List Str -> List PV -> Str -> PV -> Prop
 | head {x : Str} {ns : List Str} {p : PV} {vs : List PV} : Li (x :: ns) (p :: vs) x p
 | tail {x y : Str} {ns : List Str} {p v : PV} {vs : List PV} : Li ns vs x p -> Li (y :: ns) (v :: vs) x p
theorem Li.i1 {a x : Str} {ns : List Str} {v p : PV} {vs : List PV} : Li (a :: x :: ns) (v :: p :: vs) x p := .tail .head
theorem Li.i2 {a b x : Str} {ns : List Str} {v w p : PV} {vs : List PV} : Li (a :: b :: x :: ns) (v :: w :: p :: vs) x p := .tail (.tail .head)
theorem Li.i3 {a b d x : Str} {ns : List Str} {v w u p : PV} {vs : List PV} : Li (a :: b :: d :: x :: ns) (v :: w :: u :: p :: vs) x p := .tail (.tail (.tail .head))
theorem Li.t4 {a b d e x : Str} {ns : List Str} {v w u z p : PV} {vs : List PV} (h : Li ns vs x p) : Li (a :: b :: d :: e :: ns) (v :: w :: u :: z :: vs) x p := .tail (.tail (.tail (.tail h)))
theorem Li.idx {x : Str} {p : PV} {ns : List Str} {vs : List PV} (h : Li ns vs x p) : ∃ i : Nat, ns[i]? = some x /\ vs[i]? = some p :=
 h.rec (motive := fun ns vs x p _ => ∃ i : Nat, ns[i]? = some x /\ vs[i]? = some p) ⟨0, rfl, rfl⟩ fun _ ih => ih.elim fun i h => ⟨i + 1, h⟩
inductive Si (x : Str) (q : PV) : List Str -> List PV -> List PV -> Prop
 | head {ns : List Str} {p : PV} {vs : List PV} : Si x q (x :: ns) (p :: vs) (q :: vs)
 | tail {y : Str} {ns : List Str} {v : PV} {vs vs' : List PV} : Si x q ns vs vs' -> Si x q (y :: ns) (v :: vs) (v :: vs')
theorem Si.i3 {a b d x : Str} {ns : List Str} {q v w u p : PV} {vs : List PV} : Si x q (a :: b :: d :: x :: ns) (v :: w :: u :: p :: vs) (v :: w :: u :: q :: vs) := .tail (.tail (.tail .head))
theorem Si.t4 {a b d e x : Str} {ns : List Str} {q v w u z : PV} {vs vs' : List PV} (h : Si x q ns vs vs') : Si x q (a :: b :: d :: e :: ns) (v :: w :: u :: z :: vs) (v :: w :: u :: z :: vs') := .tail (.tail (.tail (.tail h)))
theorem Si.idx {x : Str} {q : PV} {ns : List Str} {vs vs' : List PV} (h : Si x q ns vs vs') : ∃ (i : Nat) (p : PV), ns[i]? = some x /\ vs[i]? = some p /\ vs' = vs.set i q :=
 h.rec (motive := fun ns vs vs' _ => ∃ (i : Nat) (p : PV), ns[i]? = some x /\ vs[i]? = some p /\ vs' = vs.set i q) ⟨0, _, rfl, rfl, rfl⟩ fun _ ih => ih.elim fun i h => h.elim fun p h => ⟨i + 1, p, h.1, h.2.1, congrArg (_ :: ·) h.2.2⟩
structure Fm (env : Env) (L : Addr) (ns : List Str) : Prop where
 lo : Lo env ns
 loc : env.locals = L
section
variable {c : Cx} {env : Env} {σ σ' τ : Store} {s : Shared} {Q : PV -> Store -> Prop} {N : Store -> Prop} {R : PV -> Store -> Prop} {L : Addr} {ns : List Str} {vs : List (Option PV)}
theorem E.nm {x : Str} {pos : Pos} {p : PV} (F : Fm env L ns) (hk : Lk ns vs x p) (h : Q p ((L, .loc ns vs) :: τ)) : E c env (.Name x pos) ((L, .loc ns vs) :: τ) Q := by
 obtain ⟨lo, rfl⟩ := F
 exact E.lk lo (.head _) hk h
theorem E.n {x : Str} {pos : Pos} {p : PV} (F : Fm env L ns) (h : Q p ((L, .loc ns vs) :: τ)) (hk : autoParam (Lk ns vs x p) aTrv) : E c env (.Name x pos) ((L, .loc ns vs) :: τ) Q := E.nm F hk h
theorem X.nm {x : Str} {pos' pos : Pos} {e : PySem.Expr} (F : Fm env L ns)
  (h : E c env e σ (Kas L ns x N)) (hs : autoParam (swapsWith e (some (.Name x pos')) pos.line env = pure false) aRfl) :
  X c env (.Assign [.Name x pos'] e pos) σ N R := X.asg F.lo F.loc h hs
theorem E.self {a : SA} {t : St} {x name : Str} {p1 p2 : Pos} {p : PV} (B : Base c) (S : Tg c a) (F : Fm env L ns) (hk : Lk ns vs x (.raw (.ref a.x))) (hm : (a.dx, Cell.inst INS (INV a t)) ∈ τ) (hl : Li INS (INV a t) name p) (hb : p.nb = true) (h : Q p ((L, .loc ns vs) :: τ)) :
  E c env (.Attribute (.Name x p1) name p2) ((L, .loc ns vs) :: τ) Q := by
 obtain ⟨i, h1, h2⟩ := hl.idx
 have ho := List.all_eq_true.mp (INS_own c.P) name (List.mem_of_getElem? h1)
 exact E.attr (E.nm F hk (At.inst B S.self i (.tail _ hm) INS_nd h1 h2 ho hb h)) rfl (fun _ _ => rfl)
theorem E.sf {a : SA} {t : St} {x name : Str} {p1 p2 : Pos} {p : PV} (B : Base c) (S : Tg c a) (F : Fm env L ns) (hm : (a.dx, Cell.inst INS (INV a t)) ∈ τ) (h : Q p ((L, .loc ns vs) :: τ)) (hk : autoParam (Lk ns vs x (.raw (.ref a.x))) aTrv) (hl : autoParam (Li INS (INV a t) name p) aTrv) (hb : autoParam (p.nb = true) aRfl) :
  E c env (.Attribute (.Name x p1) name p2) ((L, .loc ns vs) :: τ) Q := E.self B S F hk hm hl hb h
inductive Ksf (L : Addr) (ns : List Str) (x name : Str) (a : SA) (N : Store -> Prop) (q : PV) (σ : Store) : Prop
 | mk (t : St) (vs' : List PV) (vs : List (Option PV)) (τ τ' : Store) (e : σ = (L, .loc ns vs) :: τ) (k : Lk ns vs x (.raw (.ref a.x))) (s : Si name q INS (INV a t) vs') (u : Up a.dx (.inst INS (INV a t)) (.inst INS vs') τ τ') (n : N ((L, .loc ns vs) :: τ')) : Ksf L ns x name a N q σ
theorem X.self {a : SA} {x name : Str} {p1 p2 pos : Pos} {value : PySem.Expr} (B : Base c) (S : Tg c a) (F : Fm env L ns)
  (h : E c env value σ (Ksf L ns x name a N))
  (hs : autoParam (swapsWith value (some (.Attribute (.Name x p1) name p2)) pos.line env = pure false) aRfl) : X c env (.Assign [.Attribute (.Name x p1) name p2] value pos) σ N R := by
 refine X.setattr (E.mono h fun q σ1 hq1 => ?_) hs
 obtain ⟨t, vs', vs, τ, τ', e, hk, hsi, U, hN⟩ := hq1
 subst e
 refine E.nm F hk fun V vo vp ro rp => ?_
 have := ro.inv_raw
 subst this
 obtain ⟨i, p, h1, h2, e⟩ := hsi.idx
 subst e
 have ht : takerIn (KK c.P) TC name = some none := by simpa using List.all_eq_true.mp (INS_set c.P) name (List.mem_of_getElem? h1)
 exact W.setInst B S.self i rp (.tail U) INS_nd h1 h2 ht (by decide) fun _ _ => hN
theorem Gm.cls {a : SA} {t : St} {f : Addr} {name : Str} {pl : Sem Bool} {K : Value -> List PV -> Store -> Prop} (B : Base c) (S : Tg c a) (hm : (a.dx, Cell.inst INS (INV a t)) ∈ σ) (hn : name ∉ INS)
  (hf : findIn (KK c.P) (.ref TC) name = some (some (.ref f))) (ht : typeIn (KK c.P) (.ref f) = some (.type "function")) (h : K (.ref f) [.raw (.ref a.x)] σ) : Gm c (.raw (.ref a.x)) name pl σ K := Gm.def B S.self hm hn hf ht h
theorem K_iter (P : Params) : findIn (KK P) (.ref TC) "_iter_namespaces" = some (some (.ref 68)) := by kernel_rfl
theorem K_68 (P : Params) : typeIn (KK P) (.ref 68) = some (.type "function") := by kernel_rfl
theorem Gm.iter {a : SA} {t : St} {pl : Sem Bool} {K : Value -> List PV -> Store -> Prop} (B : Base c) (S : Tg c a) (hm : (a.dx, Cell.inst INS (INV a t)) ∈ σ) (h : K (.ref 166) [] σ) : Gm c (.raw (.ref a.x)) "_iter_namespaces" pl σ K := by
 refine Gm.ownDef B S.self 17 hm INS_nd rfl rfl (K_iter _) (K_68 _) ?_ (by rfl) h
 exact List.all_eq_true.mp (INS_own c.P) _ (by decide)
theorem Cc.fm {f : Addr} {fd : FuncData} {body : List Stmt} {ps os ns : List Str} {pvs pvs' : List PV} {vs : List (Option PV)} (B : Base c)
  (ho : FnAt c.P f fd) (ok : FnOk fd ps os body) (hcd : codeIn (KK c.P) fd.code fd.qualname = true) (hd : c.d < recursionLimit)
  (hbind : ∀ (s : Shared) (V : View) vals, Le c.β s.heap -> VRs V pvs vals -> ∃ vals', BindsTo s fd ⟨vals, []⟩ (ps.zip vals') /\ VRs V pvs' vals') (e1 : ps ++ os = ns) (e2 : pvs'.map some ++ List.replicate os.length none = vs) (hlen : ps.length = pvs'.length)
  (h : ∀ L, Fm (callEnv fd L f) L ns -> Base { c with d := c.d + 1, u := c.u + 3 } -> Xs { c with d := c.d + 1, u := c.u + 3 } (callEnv fd L f) body ((L, .loc ns vs) :: σ) (fun σ' => fin Q .none σ') (fin Q)) :
  Cc c (.ref f) pvs σ Q := by
 subst e1 e2
 exact Cc.fn B ho ok hcd hd hbind hlen fun L hL => h L ⟨hL, rfl⟩ (B.up _ _)
theorem Ca.fm {f : Addr} {fd : FuncData} {body : List Stmt} {ps os ns : List Str} {pvs pvs' : List PV} {vs : List (Option PV)} (B : Base c)
  (ho : FnAt c.P f fd) (ok : FnOk fd ps os body) (hcd : codeIn (KK c.P) fd.code fd.qualname = true) (hd : c.d < recursionLimit)
  (hbind : ∀ (s : Shared) (V : View) vals, Le c.β s.heap -> VRs V pvs vals -> ∃ vals', BindsTo s fd ⟨vals, []⟩ (ps.zip vals') /\ VRs V pvs' vals') (e1 : ps ++ os = ns) (e2 : pvs'.map some ++ List.replicate os.length none = vs) (hlen : ps.length = pvs'.length)
  (h : ∀ L, Fm (callEnv fd L f) L ns -> Base { c with d := c.d + 1, u := c.u + 3 } -> Xs { c with d := c.d + 1, u := c.u + 3 } (callEnv fd L f) body ((L, .loc ns vs) :: σ) (fun σ' => fin Q .none σ') (fin Q)) :
  Ca c (.ref f) pvs σ Q := (Cc.fm B ho ok hcd hd hbind e1 e2 hlen h).ca
end
local macro_rules | `(tactic| trivial) => `(tactic| (with_reducible apply List.Mem.head))
local macro_rules | `(tactic| trivial) => `(tactic| (with_reducible apply List.Mem.tail; trivial))
local macro_rules | `(tactic| trivial) => `(tactic| (with_reducible first | apply Lk.head | apply Lk.i1 | apply Lk.i2 | apply Lk.i3))
local macro_rules | `(tactic| trivial) => `(tactic| (with_reducible apply Lk.t4; trivial))
local macro_rules | `(tactic| trivial) => `(tactic| (with_reducible first | apply Su.head | apply Su.i1 | apply Su.i2 | apply Su.i3))
local macro_rules | `(tactic| trivial) => `(tactic| (with_reducible apply Su.t4; trivial))
local macro_rules | `(tactic| trivial) => `(tactic| (with_reducible first | apply Li.head | apply Li.i1 | apply Li.i2 | apply Li.i3))
local macro_rules | `(tactic| trivial) => `(tactic| (with_reducible apply Li.t4; trivial))
local macro_rules | `(tactic| trivial) => `(tactic| (with_reducible first | apply Si.head | apply Si.i1 | apply Si.i2 | apply Si.i3))
local macro_rules | `(tactic| trivial) => `(tactic| (with_reducible apply Si.t4; trivial))
local macro_rules | `(tactic| trivial) => `(tactic| (with_reducible apply Up.head))
local macro_rules | `(tactic| trivial) => `(tactic| (with_reducible apply Up.tail; trivial))
noncomputable def look (u : U) : List (U × Px) -> List Px -> Option Px
 | [], _ => none
 | (v, p) :: l, seen => if v = u /\ p ∉ seen then some p else look u l (p :: seen)
noncomputable abbrev flat (d : Lv) : List (U × Px) := d.reverse.flatMap Prod.snd
noncomputable def qn (t : St) (u : U) : Option (Px × Bool × Bool) :=
 match look u (flat t.D) [] with
 | some p => some (p, false, false)
 | none => if t.rw = true then (match t.pm.lookup u with | some p => some (p, true, false) | none => some (nP t.pm.length, true, true))
  else if u = 0 /\ (0 : Px) ∉ (flat t.D).map Prod.snd then some (0, false, false)
  else match (flat t.N).lookup u with | some p => some (p, true, false) | none => if u = 0 then some (0, false, false) else none
noncomputable def tell (D : Lv) (x : U × Px) : Lv := match D.getLast? with
 | some (a, l) => D.dropLast ++ [(a, l ++ [x])]
 | none => D
noncomputable def qst (t : St) (u : U) (r : Px × Bool × Bool) : St := { t with D := if r.2.1 = true then tell t.D (u, r.1) else t.D, pm := if r.2.2 = true then t.pm ++ [(u, r.1)] else t.pm }
structure Ok (t : St) : Prop where
 D : t.D ≠ []
 Dl : t.D.length <= 1000
 Df : (flat t.D).length <= 4000
 Nl : t.N.length <= 1000
 Nf : (flat t.N).length <= 4000
 pm : t.pm.length <= 5
 pm0 : ∀ x ∈ t.pm, x.2 ≠ 0
noncomputable def fd83 : FuncData := getFd (a := 83) rfl
noncomputable def bd83 : List Stmt := getBody (fd := fd83) rfl
theorem at83 (P : Params) : FnAt P 83 fd83 := by kernel_rfl
theorem ok83 : FnOk fd83 ["self", "qname", "uri"] ["tag", "prefixes_seen", "u", "prefix"] bd83 := ⟨rfl, rfl, rfl, rfl, by decide +kernel, by decide, by decide +kernel⟩
theorem cd83 (P : Params) : codeIn (KK P) fd83.code fd83.qualname = true := by kernel_rfl
noncomputable def getOb {a : Addr} {o : Obj} (_ : (KK P0).lookup a = some o) : Obj := o
noncomputable def ob76 : Obj := getOb (a := 76) rfl
theorem at76 (P : Params) : (KK P).lookup 76 = some ob76 := by kernel_rfl
theorem bind83 {c : Cx} (B : Base c) {x : Value} {n : Str} (s : Shared) (V : View) (vals : List Value) (hl : Le c.β s.heap) (hv : VRs V [.raw x, .str n] vals) : ∃ vals', BindsTo s fd83 ⟨vals, []⟩ ((["self", "qname", "uri"] : List Str).zip vals') /\ VRs V [.raw x, .str n, .none] vals' := by
 obtain ⟨v, _, rfl, r1, hv1⟩ := hv.inv_cons
 obtain ⟨w, _, rfl, r2, hv2⟩ := hv1.inv_cons
 have e0 := hv2.inv_nil
 subst e0
 exact ⟨[v, w, .none], BindsTo.of_defaults (fd := fd83) rfl (B.In hl _ _ (at76 _)) rfl rfl rfl, .cons r1 (.cons r2 (.cons .none .nil))⟩
theorem le_sz {n : Nat} (h : n <= 16777216) : n <= sizeLine := by rw [sizeLine_eq]; exact h
theorem pl_flat (d : Lv) : (pl d).reverse.flatMap Prod.snd = (flat d).map pr := by
 unfold pl flat
 rw [<- List.map_reverse]
 induction d.reverse with
 | nil => rfl
 | cons x l ih => rw [List.map_cons, List.flatMap_cons, List.flatMap_cons, List.map_append, ih]
theorem Sf_inst {a : SA} {t : St} : (a.dx, Cell.inst INS (INV a t)) ∈ Sf a t := .head _
theorem Sf_D {a : SA} {t : St} : (a.D, Cell.list (refs (pl t.D))) ∈ Sf a t := by unfold Sf; simp
theorem Sf_N {a : SA} {t : St} : (a.N, Cell.list (refs (pl t.N))) ∈ Sf a t := by unfold Sf; simp
theorem Sf_pm {a : SA} {t : St} : (a.pm, Cell.dict (pmL t.pm)) ∈ Sf a t := by unfold Sf; simp
theorem Sf_lD {a : SA} {t : St} : ∀ p ∈ lsts (pl t.D), p ∈ Sf a t := fun p hp => by unfold Sf; simp [hp]
theorem Sf_lN {a : SA} {t : St} : ∀ p ∈ lsts (pl t.N), p ∈ Sf a t := fun p hp => by unfold Sf; simp [hp]
theorem in_mid {p : Addr × Cell} {pre post S : Store} (h : p ∈ S) : p ∈ pre ++ (S ++ post) := memR _ (memL _ h)
theorem Sf_nd {a : SA} {t : St} {pre post : Store} (h : (addrs (pre ++ (Sf a t ++ post))).Nodup) : ((pl t.D).map Prod.fst).Nodup /\ ((pl t.N).map Prod.fst).Nodup := by
 have h1 : (addrs (Sf a t)).Nodup := by
  simp only [addrs, List.map_append] at h
  exact (List.nodup_append.mp (List.nodup_append.mp h).2.1).1
 have h2 : (addrs (lsts (pl t.D) ++ lsts (pl t.N))).Nodup := by
  have : (lsts (pl t.D) ++ lsts (pl t.N)).Sublist (Sf a t) := by
   unfold Sf
   exact .cons _ (.cons _ (.cons _ (.cons _ (.cons _ (.cons _ (.cons _ (.refl _)))))))
  exact h1.sublist (this.map Prod.fst)
 rw [addrs, List.map_append] at h2
 have := List.nodup_append.mp h2
 rw [<- lsts_addrs, <- lsts_addrs]
 exact ⟨this.1, this.2.1⟩
section
variable {c : Cx} {env : Env} {σ τ : Store} {Q : PV -> Store -> Prop} {a : SA} {t : St} {L : Addr} {ns : List Str} {vs : List (Option PV)}
theorem E.pname {p : Px} {l : Bool} {k : Nat} {p1 p2 p3 p4 p5 p6 : Pos} (F : Fm env L ns) (h1 : Lk ns vs "prefix" (.str (pS p))) (h2 : Lk ns vs "tag" (.str (lcS l))) (hp : p ≠ 0) (h : Q (.str (wn p l)) ((L, .loc ns vs) :: τ)) :
  E c env (.JoinedStr [.FormattedValue (.Name "prefix" p1) (-1) Option.none p2, .Constant (.str ":") k p3, .FormattedValue (.Name "tag" p4) (-1) Option.none p5] p6) ((L, .loc ns vs) :: τ) Q := by
 have hl := lc_len l
 have hpl := pS_len p
 have e1 : (Str.empty ++ pS p).length <= 10 := by rw [Str.empty_append]; exact hpl
 have e2 : (Str.empty ++ pS p ++ (":" : Str)).length <= 11 := by rw [str_len_append]; have : (":" : Str).length = 1 := rfl; lia
 have e3 : (Str.empty ++ pS p ++ (":" : Str) ++ lcS l).length <= 12 := by rw [str_len_append]; lia
 refine E.fstr (Jo.cons (E.fmt (E.nm F h1 ⟨_, rfl, le_sz (by lia), _, rfl, le_sz (by lia), Jo.cons (E.str ⟨_, rfl, le_sz (by lia), Jo.cons (E.fmt (E.nm F h2 ⟨_, rfl, le_sz (by lia), _, rfl, le_sz (by lia), Jo.nil (le_sz (by lia)) ?_⟩))⟩)⟩)))
 rw [wn_f p l hp]
 exact h
theorem E.pname0 {p : Px} {l : Bool} {k : Nat} {p1 p2 p3 p4 p5 p6 p7 p8 p9 : Pos} (F : Fm env L ns) (h1 : Lk ns vs "prefix" (.str (pS p))) (h2 : Lk ns vs "tag" (.str (lcS l))) (h : Q (.str (wn p l)) ((L, .loc ns vs) :: τ)) :
  E c env (.IfExp (.Name "prefix" p7) (.JoinedStr [.FormattedValue (.Name "prefix" p1) (-1) Option.none p2, .Constant (.str ":") k p3, .FormattedValue (.Name "tag" p4) (-1) Option.none p5] p6) (.Name "tag" p8) p9) ((L, .loc ns vs) :: τ) Q := by
 refine E.ifexp (T.val (E.nm F h1 (Tr.str (le_sz (by have := pS_len p; lia)) ?_)))
 rw [pS_0]
 by_cases hp : p = 0
 ·rw [if_neg (by simp [hp])]
  subst hp
  exact E.nm F h2 h
 ·rw [if_pos (by simp [hp])]
  exact E.pname F h1 h2 hp h
theorem refs_snoc (d : Lv) (x : Addr × List (U × Px)) : refs (pl (d ++ [x])) = refs (pl d) ++ [.raw (.ref x.1)] := by unfold refs pl; simp
theorem lsts_snoc (d : Lv) (x : Addr × List (U × Px)) : lsts (pl (d ++ [x])) = lsts (pl d) ++ [(x.1, .list (x.2.map pr))] := by unfold lsts pl; simp
theorem tell_snoc (d : Lv) (b : Addr) (l : List (U × Px)) (x : U × Px) : tell (d ++ [(b, l)]) x = d ++ [(b, l ++ [x])] := by unfold tell; simp
theorem snoc_of {α : Type} {l : List α} (h : l ≠ []) : ∃ l' x, l = l' ++ [x] := ⟨_, _, (List.dropLast_concat_getLast h).symm⟩
theorem up_mid {b : Addr} {x x' : Cell} {S S' pre post : Store} (U : Up b x x' S S') : Up b x x' (pre ++ (S ++ post)) (pre ++ (S' ++ post)) := Up.append pre (U.append_right post)
theorem Sf_tellD {d : Lv} {b : Addr} {l : List (U × Px)} {x : U × Px} (hD : t.D = d ++ [(b, l)]) : Up b (.list (l.map pr)) (.list (l.map pr ++ [pr x])) (Sf a t) (Sf a { t with D := tell t.D x }) := by
 unfold Sf
 dsimp only
 rw [hD, tell_snoc, refs_snoc, refs_snoc, lsts_snoc, lsts_snoc]
 have e : (l ++ [x]).map pr = l.map pr ++ [pr x] := by simp
 rw [e]
 exact .tail (.tail (.tail (.tail (.tail (.tail (.tail (Up.append_right _ (Up.append _ .head))))))))
theorem Sf_tellN {d : Lv} {b : Addr} {l : List (U × Px)} {x : U × Px} (hN : t.N = d ++ [(b, l)]) : Up b (.list (l.map pr)) (.list (l.map pr ++ [pr x])) (Sf a t) (Sf a { t with N := tell t.N x }) := by
 unfold Sf
 dsimp only
 rw [hN, tell_snoc, refs_snoc, refs_snoc, lsts_snoc, lsts_snoc]
 have e : (l ++ [x]).map pr = l.map pr ++ [pr x] := by simp
 rw [e]
 exact .tail (.tail (.tail (.tail (.tail (.tail (.tail (Up.append _ (Up.append _ .head))))))))
theorem X.tellD {N : Store -> Prop} {R : PV -> Store -> Prop} {u : U} {p : Px} {x1 x2 : Str} {p1 p2 p3 p4 p5 p6 p7 p8 p9 p10 : Pos} {k k2 : Nat} {pre post : Store} (B : Base c) (S : Tg c a) (F : Fm env L ns) (hD : t.D ≠ []) (hz : (flat t.D).length <= 4000) (hs : Lk ns vs "self" (.raw (.ref a.x))) (h1 : Lk ns vs x1 (.str (uS u))) (h2 : Lk ns vs x2 (.str (pS p)))
  (h : N ((L, .loc ns vs) :: (pre ++ (Sf a { t with D := tell t.D (u, p) } ++ post)))) (hi : autoParam (interactive env = false) aRfl)
  (he : autoParam (∃ pl, eval (.Call (.Attribute (.Subscript (.Attribute (.Name "self" p1) "_declared_ns_stack" p2) (.UnaryOp .USub (.Constant (.int 1) k p3) p4) p5) "append" p10) [.Tuple [.Name x1 p6, .Name x2 p7] k2 p8] [] p9) env = (do
   let ov <- eval (.Subscript (.Attribute (.Name "self" p1) "_declared_ns_stack" p2) (.UnaryOp .USub (.Constant (.int 1) k p3) p4) p5) env
   standAt p10.atName
   let (f, first) <- holding [ov] (getMethod ov "append" pl)
   callWith p9 f first (backTo p9 (starEach [.Tuple [.Name x1 p6, .Name x2 p7] k2 p8] env)) [])) aEx) :
  X c env (.Expr (.Call (.Attribute (.Subscript (.Attribute (.Name "self" p1) "_declared_ns_stack" p2) (.UnaryOp .USub (.Constant (.int 1) k p3) p4) p5) "append" p10) [.Tuple [.Name x1 p6, .Name x2 p7] k2 p8] [] p9) p9) ((L, .loc ns vs) :: (pre ++ (Sf a t ++ post))) N R := by
 obtain ⟨pl, he⟩ := he
 obtain ⟨d, ⟨b, l⟩, hD'⟩ := snoc_of hD
 have hm : ∀ p ∈ Sf a t, p ∈ pre ++ (Sf a t ++ post) := fun p hp => in_mid hp
 have hl : (l.map pr).length <= 4000 := by
  rw [hD'] at hz
  simp only [flat, List.reverse_append, List.reverse_cons, List.reverse_nil, List.nil_append, List.cons_append, List.flatMap_cons, List.length_append] at hz
  rw [lnM]; lia
 have hb : (b, Cell.list (l.map pr)) ∈ Sf a t := (Sf_tellD (x := (u, p)) hD').mem
 have hDc := Sf_D (a := a) (t := t)
 rw [hD', refs_snoc] at hDc
 refine X.expr (E.meth (E.sub (E.self B S F hs (hm _ Sf_inst) (by trivial) (by rfl) (E.neg (It.last (.tail _ (hm _ hDc)) (Gm.append (.tail _ (hm _ hb)) (Es.cons (E.tuple (Es.cons (E.nm F h1 (Es.cons (E.nm F h2 (Es.nil ⟨le_sz (by simp), Es.nil ⟨.builtin, Ca.append (.tail (up_mid (Sf_tellD (x := (u, p)) hD'))) (le_sz (by lia)) h⟩⟩)) rfl)) rfl)) rfl)))))) he rfl) hi rfl
theorem pm_lookup (pm : List (U × Px)) (u : U) : (pmL pm).lookup (uS u) = (pm.lookup u).map fun p => .str (pS p) := by
 induction pm with
 | nil => rfl
 | cons x l ih =>
  obtain ⟨v, p⟩ := x
  show ((uS v, PV.str (pS p)) :: pmL l).lookup (uS u) = _
  rw [List.lookup_cons, List.lookup_cons, uS_eq, ih]
  by_cases e : u = v
  ·subst e; simp
  ·have e2 : (u == v) = false := by simpa using e
   rw [e2]; simp [e]
theorem pm_new {pm : List (U × Px)} {u : U} {p : Px} (h : pm.lookup u = none) : sto (pmL pm) (uS u) (.str (pS p)) = pmL (pm ++ [(u, p)]) := by
 unfold sto
 have : ((pmL pm).any fun x => decide (x.1 = uS u)) = false := by
  rw [List.any_eq_false]
  intro x hx
  obtain ⟨y, hy, rfl⟩ := List.mem_map.mp hx
  have hne : y.1 ≠ u := fun q => by
   have h2 := List.lookup_eq_none_iff.mp h y hy
   rw [q] at h2
   simp at h2
  simpa using fun q => hne (uS_inj q)
 rw [this]
 simp [pmL]
theorem Sf_pmU {x : List (U × Px)} : Up a.pm (.dict (pmL t.pm)) (.dict (pmL x)) (Sf a t) (Sf a { t with pm := x }) := .tail (.tail (.tail (.tail .head)))
theorem in_iff {p : Px} {sn : List Px} : decide (pS p ∈ sn.map pS) = decide (p ∈ sn) := by
 apply decide_eq_decide.mpr
 constructor
 ·intro h
  obtain ⟨q, hq, e⟩ := List.mem_map.mp h
  rw [<- pS_inj e]; exact hq
 ·intro h; exact List.mem_map_of_mem h
theorem Cc83 (B : Base c) (S : Tg c a) (hd : c.d + 1 < recursionLimit) (ok : Ok t) {n : U × Bool} {r : Px × Bool × Bool} (hq : qn t n.1 = some r) {pre post : Store}
  (h : Q (.tup [.str (wn r.1 n.2), .str (lcS n.2), .str (uS n.1)]) (pre ++ (Sf a (qst t n.1 r) ++ post))) : Cc c (.ref 83) [.raw (.ref a.x), .str (nmS n)] (pre ++ (Sf a t ++ post)) Q := by
 refine Cc.nodup fun hnd => ?_
 have hnd' := Sf_nd hnd
 refine Cc.fm (pvs' := [.raw (.ref a.x), .str (nmS n), .none]) (ns := ["self", "qname", "uri", "tag", "prefixes_seen", "u", "prefix"]) (vs := [some (.raw (.ref a.x)), some (.str (nmS n)), some .none, none, none, none, none]) B (at83 _) ok83 (cd83 _) (by lia) (bind83 B) rfl rfl rfl fun L F B' => ?_
 have S' := S.up (c.d + 1) (c.u + 3)
 generalize hτ : pre ++ (Sf a t ++ post) = τ
 have hm : ∀ p ∈ Sf a t, p ∈ τ := fun p hp => by rw [<- hτ]; exact in_mid hp
 refine Xs.cons (X.iff (T.cmp (E.n F (E.none (Cmp.is_none (Tr.bool ?_))))))
 rw [if_pos rfl]
 refine Xs.cons ?_
 refine X.asgT (E.ifexp (T.cmp (E.slStr (E.n F (Pt.none (Pt.some (E.int ⟨1, rfl, nmS n, rfl, ?_, E.str (Cmp.eq_str (Tr.bool ?_))⟩)))))))
 ·rw [sizeLine_eq]; have := nm_len n; lia
 rw [nm_open]
 have tail : Xs { c with d := c.d + 1, u := c.u + 3 } (callEnv fd83 L 83) (bd83.drop 1)
   ((L, .loc ["self", "qname", "uri", "tag", "prefixes_seen", "u", "prefix"] [some (.raw (.ref a.x)), some (.str (nmS n)), some (.str (uS n.1)), some (.str (lcS n.2)), none, none, none]) :: τ)
   (fun σ' => fin Q .none σ') (fin Q) := by
  refine Xs.cons (X.nm F (E.call (E.globB B' rfl rfl rfl rfl (by kernel_rfl) rfl ⟨_, rfl, Es.nil ⟨.type, Ca.set0 rfl fun aS => ⟨_, _, _, rfl, by trivial, ?_⟩⟩⟩)))
  let ρ (S : Str -> Bool) (m : Nat) (x y : Option PV) : Store := (L, .loc ["self", "qname", "uri", "tag", "prefixes_seen", "u", "prefix"] [some (.raw (.ref a.x)), some (.str (nmS n)), some (.str (uS n.1)), some (.str (lcS n.2)), some (.raw (.ref aS)), x, y]) :: (aS, .set S m) :: τ
  refine Xs.cons (X.for (E.meth (E.n F (Gm.iter B' S' (.tail _ (.tail _ (hm _ Sf_inst))) (Es.cons (E.self B' S' F (by trivial) (.tail _ (hm _ Sf_inst)) (by trivial) (by rfl)
   (Es.nil ⟨KeeperIs.fn B' (at166 _), Ca166 B' hd (ds := pl t.D) (.tail _ (.tail _ (hm _ Sf_D))) (fun p hp => .tail _ (.tail _ (hm _ (Sf_lD p hp)))) ?_ ?_ hnd'.1 ?_⟩))))) rfl))
  ·unfold pl; rw [lnM]; exact le_sz (by have := ok.Dl; lia)
  ·rw [pl_flat, lnM]; exact le_sz (by have := ok.Df; lia)
  rw [pl_flat]
  refine ⟨(flat t.D).map pr, _, fun i σ' => ∃ S m x y sn, (∀ k, S k = decide (k ∈ sn.map pS)) /\ m <= i /\ (∀ p, p ∈ sn ↔ p ∈ ((flat t.D).take i).map Prod.snd) /\ look n.1 (flat t.D) [] = look n.1 ((flat t.D).drop i) sn /\ σ' = ρ S m x y,
   Itb.lst, ⟨_, _, none, none, [], fun k => by simp, Nat.le_refl _, fun p => by simp, rfl, rfl⟩, fun _ _ _ => trivial, ?_, ?_⟩
  ·rintro Fr β hb i q σ' hq' ⟨S, m, x, y, sn, hS, hmi, hsn, hlook, rfl⟩
   rw [List.getElem?_map] at hq'
   obtain ⟨z, hz, rfl⟩ := Option.map_eq_some_iff.mp hq'
   have hil : i < (flat t.D).length := (List.getElem?_eq_some_iff.mp hz).1
   have hdrop : (flat t.D).drop i = z :: (flat t.D).drop (i + 1) := by
    rw [List.drop_eq_getElem_cons hil, (List.getElem?_eq_some_iff.mp hz).2]
   have htake : (flat t.D).take (i + 1) = (flat t.D).take i ++ [z] := by rw [List.take_add_one, hz]; rfl
   have hDf := ok.Df
   have hSz : S (pS z.2) = decide (z.2 ∈ sn) := by rw [hS, in_iff]
   rw [hdrop] at hlook
   refine Asg.genK fun N' hN => ?_
   refine Asg.tuple (Asg.name F.lo F.loc (by trivial) (Asg.name F.lo F.loc (by trivial) ?_)) rfl
   have step : (¬ (z.1 = n.1 /\ z.2 ∉ sn)) -> Xs (({ c with d := c.d + 1, u := c.u + 3 } : Cx).ext Fr β) (callEnv fd83 L 83) [] (ρ (fun k' => S k' || decide (k' = pS z.2)) (if S (pS z.2) then m else m + 1) (some (.str (uS z.1))) (some (.str (pS z.2)))) N' (fin Q) := fun hne =>
    Xs.nil (hN _ ⟨_, _, _, _, z.2 :: sn, fun k => by rw [hS]; by_cases e : k = pS z.2 <;> simp [e], by split <;> lia, fun p => by rw [htake]; simp [hsn, or_comm], by rw [hlook]; exact if_neg hne, rfl⟩)
   refine Xs.cons (X.iff (T.and (and_cons (T.cmp (E.n F (E.n F (Cmp.eq_str (Tr.bool ?_))))))))
   rw [uS_eq]
   by_cases hu : z.1 = n.1
   ·rw [if_pos (decide_eq_true hu)]
    refine and_cons (T.cmp (E.n F (E.n F (Cmp.notin_set (.tail _ (.head _)) (show m < 4096 by lia) (Tr.bool ?_)))))
    rw [hSz]
    by_cases hp : z.2 ∈ sn
    ·rw [if_neg (by simp [hp])]
     rw [if_neg (by simp)]
     exact Xs.nil (Xs.cons (X.expr (E.meth (E.n F (Gm.setadd (.tail _ (.head _)) (show m < 4096 by lia) (Es.cons (E.n F (Es.nil ⟨.builtin, Ca.setadd (.tail .head) (show m + 1 < 4096 by lia) (step fun q => q.2 hp)⟩)) rfl))))))
    ·rw [if_pos (by simp [hp])]
     refine and_nil ?_
     rw [if_pos rfl]
     have hr : r = (z.2, false, false) := by
      have hl : look n.1 (flat t.D) [] = some z.2 := by rw [hlook]; exact if_pos ⟨hu, hp⟩
      have : qn t n.1 = some (z.2, false, false) := by unfold qn; rw [hl]
      exact Option.some.inj (hq.symm.trans this)
     subst hr
     refine Xs.cons (X.return (E.tuple (Es.cons (E.pname0 F (by trivial) (by trivial) (Es.cons (E.n F (Es.cons (E.n F (Es.nil ⟨le_sz (by simp), τ, .cons _ (.cons _ (.refl _)), ?_⟩)) rfl)) rfl)) rfl)))
     rw [<- hτ]
     exact h
   ·rw [if_neg (by simpa using hu)]
    rw [if_neg (by simp)]
    exact Xs.nil (Xs.cons (X.expr (E.meth (E.n F (Gm.setadd (.tail _ (.head _)) (show m < 4096 by lia) (Es.cons (E.n F (Es.nil ⟨.builtin, Ca.setadd (.tail .head) (show m + 1 < 4096 by lia) (step fun q => hu q.1)⟩)) rfl))))))
  ·rintro σ' ⟨S, m, x, y, sn, hS, hmi, hsn, hlook, rfl⟩
   rw [lnM] at hmi hsn hlook
   rw [List.drop_length] at hlook
   rw [List.take_length] at hsn
   have hl : look n.1 (flat t.D) [] = none := hlook
   have hDf := ok.Df
   unfold qn at hq
   rw [hl] at hq
   dsimp only at hq
   have ret0 : ∀ pS' uS', Q (.tup [pS', .str (lcS n.2), uS']) τ -> fin Q (.tup [pS', .str (lcS n.2), uS']) (ρ S m x y) := fun _ _ h => ⟨τ, .cons _ (.cons _ (.refl _)), h⟩
   refine Xs.cons (X.iff (T.val (E.sf B' S' F (.tail _ (hm _ Sf_inst)) (Tr.bool ?_))))
   subst hτ
   by_cases hrw : t.rw = true
   ·rw [if_pos hrw] at hq ⊢
    refine Xs.cons (X.iff (T.cmp (E.n F (E.sf B' S' F (.tail _ (hm _ Sf_inst)) (Cmp.in_dict (.tail _ (.tail _ (hm _ Sf_pm))) (Tr.bool ?_))))))
    rw [pm_lookup]
    cases hpm : t.pm.lookup n.1 with
    | some p =>
     rw [hpm] at hq
     dsimp only at hq
     cases hq
     have hp0 : p ≠ 0 := by
      have : (n.1, p) ∈ t.pm := by
       obtain ⟨l1, l2, e, _⟩ := List.lookup_eq_some_iff.mp hpm
       rw [e]; simp
      exact ok.pm0 _ this
     rw [if_pos (by rfl)]
     refine Xs.cons (X.nm F (E.sub (E.sf B' S' F (.tail _ (hm _ Sf_inst)) (E.n F (It.dict (p := .str (pS p)) (.tail _ (.tail _ (hm _ Sf_pm))) (by rw [pm_lookup, hpm]; rfl) ⟨_, _, _, rfl, by trivial, Xs.nil ?_⟩)))))
     refine Xs.cons (X.tellD (pre := (aS, .set S m) :: pre) (u := n.1) (p := p) B' S' F ok.D ok.Df (by trivial) (by trivial) (by trivial) ?_)
     refine Xs.cons (X.return (E.tuple (Es.cons (E.pname F (by trivial) (by trivial) hp0 (Es.cons (E.n F (Es.cons (E.n F (Es.nil ⟨le_sz (by simp), _, .cons _ (.cons _ (.refl _)), ?_⟩)) rfl)) rfl)) rfl)))
     exact h
    | none =>
     rw [hpm] at hq
     dsimp only at hq
     cases hq
     have hk := ok.pm
     have hp0 := nP_ne ⟨t.pm.length, by lia⟩
     rw [if_neg (by simp)]
     refine Xs.cons (X.asg2 (E.fstr (Jo.cons (E.str ⟨_, rfl, le_sz (by rw [Str.empty_append]; decide), Jo.cons (E.fmtInt (E.call (E.globB B' rfl rfl rfl rfl (by kernel_rfl) rfl ⟨_, rfl, Es.cons (E.sf B' S' F (.tail _ (hm _ Sf_inst)) (Es.nil ⟨.builtin, Ca.len_dict (.tail _ (.tail _ (hm _ Sf_pm))) (le_sz (by rw [lnM]; lia)) ⟨_, rfl, ?_, _, rfl, ?_, Jo.nil ?_ ?_⟩⟩)) rfl⟩)))⟩))))
     all_goals rw [lnM]
     ·have : (t.pm.length : Int).natAbs = t.pm.length := rfl
      rw [this]
      have : t.pm.length.log2 <= t.pm.length := Nat.log2_le_self _
      lia
     all_goals rw [nP_f ⟨t.pm.length, by lia⟩]
     ·exact le_sz (Nat.le_trans (pS_len _) (by decide))
     ·exact le_sz (Nat.le_trans (pS_len _) (by decide))
     refine Asg.name F.lo F.loc (by trivial) (Asg.item (E.sf B' S' F (.tail _ (hm _ Sf_inst)) (E.n F (SetI.dict (.tail (.tail (up_mid (by rw [pm_new hpm]; exact Sf_pmU)))) (le_sz (by rw [lnM]; lia)) (Xs.nil ?_)))))
     refine Xs.cons (X.tellD (pre := (aS, .set S m) :: pre) (t := { t with pm := t.pm ++ [(n.1, nP t.pm.length)] }) (u := n.1) (p := nP t.pm.length) B' S' F ok.D ok.Df (by trivial) (by trivial) (by trivial) ?_)
     refine Xs.cons (X.return (E.tuple (Es.cons (E.pname F (by trivial) (by trivial) hp0 (Es.cons (E.n F (Es.cons (E.n F (Es.nil ⟨le_sz (by simp), _, .cons _ (.cons _ (.refl _)), ?_⟩)) rfl)) rfl)) rfl)))
     exact h
   ·rw [if_neg hrw] at hq ⊢
    refine Xs.nil ?_
    have rest : ¬ (n.1 = 0 /\ (0 : Px) ∉ (flat t.D).map Prod.snd) -> Xs { c with d := c.d + 1, u := c.u + 3 } (callEnv fd83 L 83) (bd83.drop 5) (ρ S m x y) (fun σ' => fin Q .none σ') (fin Q) := fun hne => by
     rw [if_neg hne] at hq
     refine Xs.cons (X.for (E.meth (E.n F (Gm.iter B' S' (.tail _ (.tail _ (hm _ Sf_inst))) (Es.cons (E.self B' S' F (by trivial) (.tail _ (hm _ Sf_inst)) (by trivial) (by rfl)
      (Es.nil ⟨KeeperIs.fn B' (at166 _), Ca166 B' hd (ds := pl t.N) (.tail _ (.tail _ (hm _ Sf_N))) (fun p hp => .tail _ (.tail _ (hm _ (Sf_lN p hp)))) ?_ ?_ hnd'.2 ?_⟩))))) rfl))
     ·unfold pl; rw [lnM]; exact le_sz (by have := ok.Nl; lia)
     ·rw [pl_flat, lnM]; exact le_sz (by have := ok.Nf; lia)
     rw [pl_flat]
     refine ⟨(flat t.N).map pr, _, fun i σ' => ∃ x y, (flat t.N).lookup n.1 = ((flat t.N).drop i).lookup n.1 /\ σ' = ρ S m x y,
      Itb.lst, ⟨_, _, rfl, rfl⟩, fun _ _ _ => trivial, ?_, ?_⟩
     ·rintro Fr β hb i q σ' hq' ⟨x, y, hlk, rfl⟩
      have B'' := B'.ext (F := Fr) hb
      have S'' := S'.ext (F := Fr) hb
      rw [List.getElem?_map] at hq'
      obtain ⟨z, hz, rfl⟩ := Option.map_eq_some_iff.mp hq'
      have hil : i < (flat t.N).length := (List.getElem?_eq_some_iff.mp hz).1
      have hdrop : (flat t.N).drop i = z :: (flat t.N).drop (i + 1) := by
       rw [List.drop_eq_getElem_cons hil, (List.getElem?_eq_some_iff.mp hz).2]
      rw [hdrop] at hlk
      obtain ⟨z1, z2⟩ := z
      rw [List.lookup_cons] at hlk
      refine Asg.genK fun N' hN => ?_
      refine Asg.tuple (Asg.name F.lo F.loc (by trivial) (Asg.name F.lo F.loc (by trivial) ?_)) rfl
      refine Xs.cons (X.iff (T.cmp (E.n F (E.n F (Cmp.eq_str (Tr.bool ?_))))))
      rw [uS_eq]
      by_cases hu : z1 = n.1
      ·subst hu
       rw [show (n.1 == n.1) = true by simp] at hlk
       rw [hlk] at hq
       cases hq
       rw [if_pos (by simp)]
       refine Xs.cons (X.tellD (pre := (aS, .set S m) :: pre) (u := n.1) (p := z2) B'' S'' F ok.D ok.Df (by trivial) (by trivial) (by trivial) ?_)
       refine Xs.cons (X.return (E.tuple (Es.cons (E.pname0 F (by trivial) (by trivial) (Es.cons (E.n F (Es.cons (E.n F (Es.nil ⟨le_sz (by simp), _, .cons _ (.cons _ (.refl _)), ?_⟩)) rfl)) rfl)) rfl)))
       exact h
      ·have e2 : (n.1 == z1) = false := by rw [beq_eq_false_iff_ne]; exact fun q => hu q.symm
       rw [e2] at hlk
       rw [if_neg (by simpa using hu)]
       exact Xs.nil (Xs.nil (hN _ ⟨_, _, hlk, rfl⟩))
     ·rintro σ' ⟨x, y, hlk, rfl⟩
      rw [lnM, List.drop_length] at hlk
      have hlk : (flat t.N).lookup n.1 = none := hlk
      rw [hlk] at hq
      dsimp only at hq
      by_cases h0 : n.1 = 0
      ·rw [if_pos h0] at hq
       cases hq
       refine Xs.cons (X.iff (T.not (T.val (E.nm F (by trivial) (Tr.str (le_sz (by have := uS_len n.1; lia)) ?_)))))
       rw [uS_0, if_pos (by simp [h0])]
       refine Xs.cons (X.return (E.tuple (Es.cons (E.n F (Es.cons (E.n F (Es.cons (E.n F (Es.nil ⟨le_sz (by simp), _, .cons _ (.cons _ (.refl _)), ?_⟩)) rfl)) rfl)) rfl)))
       exact h
      ·rw [if_neg h0] at hq
       cases hq
    refine Xs.cons (X.iff (T.and (and_cons (T.not (T.val (E.nm F (by trivial) (Tr.str (le_sz (by have := uS_len n.1; lia)) ?_)))))))
    rw [uS_0]
    by_cases h0 : n.1 = 0
    ·rw [if_pos (by simp [h0])]
     refine and_cons (T.cmp (E.str (E.n F (Cmp.notin_set (.tail _ (.head _)) (show m < 4096 by lia) (Tr.bool ?_)))))
     have hS0 : S "" = decide ((0 : Px) ∈ sn) := by
      have := hS (pS 0)
      rw [in_iff] at this
      exact this
     rw [hS0]
     by_cases hp : (0 : Px) ∈ sn
     ·rw [if_neg (by simp [hp]), if_neg (by simp)]
      exact Xs.nil (rest fun q => q.2 ((hsn 0).mp hp))
     ·rw [if_pos (by simp [hp])]
      refine and_nil ?_
      rw [if_pos rfl]
      rw [if_pos ⟨h0, fun q => hp ((hsn 0).mpr q)⟩] at hq
      cases hq
      refine Xs.cons (X.return (E.tuple (Es.cons (E.n F (Es.cons (E.n F (Es.cons (E.n F (Es.nil ⟨le_sz (by simp), _, .cons _ (.cons _ (.refl _)), ?_⟩)) rfl)) rfl)) rfl)))
      exact h
    ·rw [if_neg (by simp [h0]), if_neg (by simp)]
     exact Xs.nil (rest fun q => h0 q.1)
 by_cases h0 : n.1 = 0
 ·rw [if_neg (by simp [h0])]
  refine E.tuple (Es.cons (E.str (Es.cons (E.n F (Es.nil ⟨le_sz (by simp), ?_⟩)))))
  refine Asg.tuple ?_ rfl
  refine Asg.name F.lo F.loc (by trivial) (Asg.name F.lo F.loc (by trivial) ?_)
  have e1 : uS n.1 = "" := by rw [h0]; rfl
  rw [e1, <- nm_0 n h0] at tail
  exact Xs.nil tail
 ·rw [if_pos (by simp [h0])]
  refine E.meth (E.slStr (E.n F (Pt.some (E.int ⟨1, rfl, Pt.none ⟨nmS n, rfl, ?_, Gm.rsplit (Es.cons (E.str (Es.cons (E.int (Es.nil ⟨.builtin, Ca.rsplit ?_ ?_ ?_ ?_⟩)))))⟩⟩)))) rfl
  ·rw [sizeLine_eq]; have := nm_len n; lia
  ·rfl
  ·rfl
  ·rw [sizeLine_eq]; have := nm_len n; have := Txt.slice_le (nmS n) (some 1) none; lia
  rw [nm_parts n h0]
  refine Asg.lst ?_ rfl
  refine Asg.name F.lo F.loc (by trivial) (Asg.name F.lo F.loc (by trivial) ?_)
  exact Xs.nil tail
theorem Ca83 (B : Base c) (S : Tg c a) (hd : c.d + 1 < recursionLimit) (ok : Ok t) {n : U × Bool} {r : Px × Bool × Bool} (hq : qn t n.1 = some r) {pre post : Store}
  (h : Q (.tup [.str (wn r.1 n.2), .str (lcS n.2), .str (uS n.1)]) (pre ++ (Sf a (qst t n.1 r) ++ post))) : Ca c (.ref 83) [.raw (.ref a.x), .str (nmS n)] (pre ++ (Sf a t ++ post)) Q := (Cc83 B S hd ok hq h).ca
end
theorem check_join {x : Str} {t : Tok} {v : Value} : checkBoundCall "str.join" ⟨[.str x t, v], []⟩ = pure () := by kernel_rfl
theorem sub_lm : isSubtype (.type "list") (.type "module") = pure false := by first | rfl | kernel_rfl
noncomputable def getSig {id : String} {sg : Manifest.Signature} (_ : Manifest.signature? id = some sg) : Manifest.Signature := sg
noncomputable def sigA : Manifest.Signature := getSig (id := "list.append") rfl
theorem sigA_eq : Manifest.signature? "list.append" = some sigA := by kernel_rfl
theorem sigA_ok (a : Addr) (v : Value) : Bind.checkArgs "list.append" { sigA with full := s!"{Bind.lastOf "list"}.{Bind.lastOf "list.append"}" } ⟨[.ref a, v], []⟩ = pure () := by kernel_rfl
theorem check_append {M : Model} {A : Around} {E : Value -> Shared -> Prop} {s : Shared} {a : Addr} {vs : List Value} {n : Nat} {v : Value} {Q : Unit -> Shared -> Prop} (ho : s.heap.get? a = some (seqObj "list" vs.toArray n)) (h : Q () s) :
  wpAny M A (checkBoundCall "list.append" ⟨[.ref a, v], []⟩) Q E s := by
 have hT : s.TypeIs (.ref a) "list" := ⟨_, ho, rfl⟩
 have e1 : builtinKind "list.append" = some .method := by decide +kernel
 have e2 : Manifest.varargsMethods.contains "list.append" = false := by decide +kernel
 unfold checkBoundCall
 simp only [sigA_eq, e1, e2]
 refine wb (wpAny_isInstance hT sub_lm ?_)
 show wpAny M A (if (Manifest.varargsMethods.contains "list.append" || false) = true then _ else _) _ _ _
 rw [e2, if_neg (by decide)]
 refine wb (ks_wpAny_isType_inst ho (by intro c h; cases h) ?_)
 rw [if_neg (by decide)]
 refine wb (wpAny_typeOf hT ?_)
 show wpAny M A (Bind.checkArgs "list.append" { sigA with full := s!"{Bind.lastOf "list"}.{Bind.lastOf "list.append"}" } ⟨[.ref a, v], []⟩) Q E s
 rw [sigA_ok]
 exact wq h
theorem bm_call {prog : Program} {w : World} {A : Around} {E : Value -> Shared -> Prop} {s : Shared} {b : Addr} {id : String} {self : Value} {rest : List Value} {B : Builtin} {S : PySem.Spec} {Q : Value -> Shared -> Prop} (ho : s.heap.get? b = some (bmObj id self))
  (hp : plainId id = true) (he : entryFor table id = some B) (hc : ∀ (P : Unit -> Shared -> Prop) (E' : Value -> Shared -> Prop), P () s -> wpAny (model prog w) A.in1 (checkBoundCall id ⟨self :: rest, []⟩) P E' s) (g : Meets (B ⟨self :: rest, []⟩) S) (h : S A (wants Q E) s) :
  wpAny (model prog w) A (call (.ref b) rest) Q E s := by
 refine wpAny_call (codeAny_of_tree ?_)
 show wpAny _ A.in1 (callAny (.ref b) ⟨rest, []⟩) _ _ s
 simp only [callAny]
 refine wb (wpAny_load ho ?_)
 show wpAny (model prog w) A.in1 (if ((bmObj id self).cls == Value.type "method" || (bmObj id self).cls == Value.type "builtin_function_or_method" || (bmObj id self).cls == Value.type "method-wrapper") = true then
   (if ((bmObj id self).cls != Value.type "method") = true then (do
    checkBoundCall id ⟨self :: rest, []⟩
    again (Code.builtin id ⟨self :: rest, []⟩)) else _) else _) _ _ s
 rw [if_pos (show (Value.type "builtin_function_or_method" == Value.type "method" || Value.type "builtin_function_or_method" == Value.type "builtin_function_or_method" || Value.type "builtin_function_or_method" == Value.type "method-wrapper") = true by decide), if_pos (show (Value.type "builtin_function_or_method" != Value.type "method") = true by decide)]
 refine wb (hc _ _ ?_)
 refine wq ⟨plainId_quiet hp _, ?_⟩
 refine codeAny_builtin he ?_
 rw [Around.under_plainId hp _]
 exact g prog w A _ s h
section
variable {c : Cx} {env : Env} {σ σ' τ : Store} {s : Shared} {Q : PV -> Store -> Prop} {N : Store -> Prop} {R : PV -> Store -> Prop} {a : SA} {t : St} {L : Addr} {ns : List Str} {vs : List (Option PV)} {pre post : Store}
theorem Ca.bmAppend {b a : Addr} {l : List PV} {p : PV} (hb : c.β.mem b = some (bmObj "list.append" (.ref a))) (U : Up a (.list l) (.list (l ++ [p])) σ σ') (hl : l.length <= sizeLine) (h : Q .none σ') : Ca c (.ref b) [p] σ Q := fun V vs hv A s hA Rp hV => by
 obtain ⟨w, _, rfl, rw', hv2⟩ := hv.inv_cons
 have e0 := hv2.inv_nil
 subst e0
 obtain ⟨o, e, vs, n, rfl, rv⟩ := Rp.cells _ U.mem
 refine bm_call (Rp.le _ _ hb) F.slot_list_append.plain F.entry_list_append (fun P E' h => check_append e h) (list_append a vs.toArray n w (by rw [List.size_toArray, rv.length]; exact hl)) ⟨e, ?_⟩
 have e2 := IsL.update (h := s.heap) e (fun x => x.push w)
 rw [show vs.toArray.push w = (vs ++ [w]).toArray by simp] at e2
 have out := Rp.upd (x' := .list (l ++ [p])) U (Heap.SameBut.update s.heap a (Obj.mapSeq fun x => x.push w)) e2 ⟨vs ++ [w], _, rfl, (rv.append (.cons (rw'.mono hV) .nil))⟩ s.toks (Nat.le_refl _)
 exact ⟨σ', out, .none, .none, h⟩
theorem VRs.toStrs {V : View} {xs : List Str} : ∀ {vs : List Value}, VRs V (xs.map .str) vs -> ∃ l : List (Str × Tok), vs = strValues l /\ l.map (·.1) = xs := by
 induction xs with
 | nil => exact fun h => ⟨[], h.inv_nil, rfl⟩
 | cons x xs ih =>
  intro vs h
  obtain ⟨v, vs, rfl, r, h'⟩ := h.inv_cons
  obtain ⟨t, rfl⟩ := r.inv_str
  obtain ⟨l, rfl, e⟩ := ih h'
  exact ⟨(x, t) :: l, rfl, congrArg (x :: ·) e⟩
theorem foldl_len (xs : List Str) : ∀ n : Nat, (xs.toArray.foldl (· + ·.length + Str.empty.length) n) = n + (xs.map (·.length)).sum := by
 simp only [List.foldl_toArray]
 induction xs with
 | nil => intro n; simp
 | cons x xs ih =>
  intro n
  rw [List.foldl_cons, ih]
  have : Str.empty.length = 0 := rfl
  simp [this]
  lia
noncomputable def catS (xs : List Str) : Str := Str.join Str.empty xs
theorem catS_len (xs : List Str) : (catS xs).length <= (xs.map (·.length)).sum := by
 have := StrLaws.join_length_le Str.empty xs
 have h0 : Str.empty.length = 0 := rfl
 rw [h0, Nat.mul_zero, Nat.add_zero] at this
 exact this
set_option tactic.hygienic true in
theorem join_meets {R : Rep c σ s} {l : List (Str × Tok)} {m : Made} (hz : ((l.map (·.1)).map (·.length)).sum <= sizeLine) (hR : Rep c σ s) (h : Q (.str (catS (l.map (·.1)))) σ) : (joinMade Str.empty l).post (fun v s' => Ends c σ s (ret Q v) s') s := by
 unfold joinMade
 split
 ·rename_i p
  refine ret_here hR (.str _ _) ?_
  exact h
 ·have e := StrLaws.glued_eq_join Str.empty (l.map (·.1))
  rw [e]
  exact ⟨Nat.le_trans (catS_len _) hz, ret_toks hR (Nat.le_succ _) (.str _ _) h⟩
theorem Ca.bmJoin {b : Addr} {t : Tok} {p : PV} {xs : List Str} (hb : ∀ s, Rep c σ s -> s.heap.get? b = some (bmObj "str.join" (.str Str.empty t))) (hL : LV c σ p (xs.map .str)) (hz : (xs.map (·.length)).sum <= sizeLine) (h : Q (.str (catS xs)) σ) : Ca c (.ref b) [p] σ Q := fun V vs hv A s hA Rp hV => by
 obtain ⟨w, _, rfl, rw', hv2⟩ := hv.inv_cons
 have e0 := hv2.inv_nil
 subst e0
 obtain ⟨d, ws, n, rfl, e, rv⟩ := hL s w Rp (rw'.mono hV)
 obtain ⟨l, rfl, rfl⟩ := rv.toStrs
 refine bm_call (hb s Rp) F.slot_str_join.plain F.entry_str_join (fun P E' h => wpAny_of_eq check_join h) (meets_str_join_list Str.empty t d l ?_) ⟨seqObj_isList e, ?_⟩
 ·rw [foldl_len]
  unfold Builtin.Str.tooLong
  rw [sizeLine_eq] at hz
  exact decide_eq_false (by rw [sizeLine_eq]; lia)
 ·exact join_meets (R := Rp) (m := .int 0) hz Rp h
theorem Ca.join {p : PV} {xs : List Str} (hL : LV c σ p (xs.map .str)) (hz : (xs.map (·.length)).sum <= sizeLine) (h : Q (.str (catS xs)) σ) : Ca c (.builtin "str.join") [.str Str.empty, p] σ Q := fun V vs hv A s hA Rp hV => by
 obtain ⟨v, _, rfl, r, hv1⟩ := hv.inv_cons
 obtain ⟨w, _, rfl, rw', hv2⟩ := hv1.inv_cons
 have e0 := hv2.inv_nil
 subst e0
 obtain ⟨t, rfl⟩ := r.inv_str
 obtain ⟨d, ws, n, rfl, e, rv⟩ := hL s w Rp (rw'.mono hV)
 obtain ⟨l, rfl, rfl⟩ := rv.toStrs
 refine call_meets F.slot_str_join (typeIs_str _ _ _) F.entry_str_join (F.args_str_join_2 _ _) (meets_str_join_list Str.empty t d l ?_) ⟨seqObj_isList e, ?_⟩
 ·rw [foldl_len]
  unfold Builtin.Str.tooLong
  rw [sizeLine_eq] at hz
  exact decide_eq_false (by rw [sizeLine_eq]; lia)
 ·exact join_meets (R := Rp) (m := .int 0) hz Rp h
theorem Gm.join {x : Str} {pl : Sem Bool} {K : Value -> List PV -> Store -> Prop} (h : K (.builtin "str.join") [.str x] σ) : Gm c (.str x) "join" pl σ K := Gm.builtin HasT.str F.plainAttrs_str F.slot_str_join F.type_str_join h
theorem K_write (P : Params) : findIn (KK P) (.ref TC) "_write" = some none := by kernel_rfl
theorem Sf_out {x : List Str} : Up a.out (.list (t.out.map .str)) (.list (x.map .str)) (Sf a t) (Sf a { t with out := x }) := .tail (.tail .head)
theorem Ca.write (S : Tg c a) {x : Str} (hz : t.out.length <= 100000) (h : Q .none (pre ++ (Sf a { t with out := t.out ++ [x] } ++ post))) : Ca c (.ref a.b) [.str x] (pre ++ (Sf a t ++ post)) Q := by
 refine Ca.bmAppend S.wr (up_mid (by
  have := Sf_out (a := a) (t := t) (x := t.out ++ [x])
  rw [List.map_append] at this
  exact this)) (le_sz (by rw [lnM]; lia)) h
theorem E.write {x : Str} {value : PySem.Expr} {p1 p2 p3 : Pos} (B : Base c) (S : Tg c a) (F : Fm env L ns) (hs : Lk ns vs x (.raw (.ref a.x))) (hm : (a.dx, Cell.inst INS (INV a t)) ∈ τ)
  (h : E c env value ((L, .loc ns vs) :: τ) (fun p σ1 => Ca c (.ref a.b) [p] σ1 Q))
  (he : autoParam (∃ pl, eval (.Call (.Attribute (.Name x p1) "_write" p2) [value] [] p3) env = (do
   let ov <- eval (.Name x p1) env
   standAt p2.atName
   let (f, first) <- holding [ov] (getMethod ov "_write" pl)
   callWith p3 f first (backTo p3 (starEach [value] env)) [])) aEx)
  (hst : autoParam (starEach [value] env = (false, eval value env) :: starEach [] env) aRfl) (hst2 : autoParam ((backTo p3 (starEach [value] env)).any (·.1) = false) aRfl) :
  E c env (.Call (.Attribute (.Name x p1) "_write" p2) [value] [] p3) ((L, .loc ns vs) :: τ) Q := by
 obtain ⟨pl, he⟩ := he
 refine E.meth (E.nm F hs (Gm.own B S.self 0 (.tail _ hm) INS_nd rfl rfl (K_write _) ?_ (by rfl) (Es.cons (E.mono h fun p σ1 hp => Es.nil ⟨.bm S.wr, hp⟩) hst))) he hst2
 exact List.all_eq_true.mp (INS_own c.P) _ (by decide)
end
theorem zip_lt {vs : List Value} {x : Value × Nat} (hx : x ∈ vs.zipIdx) : x.2 < vs.length := by
 obtain ⟨x, k⟩ := x
 have := List.mem_zipIdx hx
 omega
section
variable {prog : Program} {w : World} {A : Around} {E : Value -> Shared -> Prop} {s : Shared}
theorem delItem_all {l sl : Addr} {vs : List Value} {n : Nat} {Q : Unit -> Shared -> Prop} (ho : s.heap.get? l = some (seqObj "list" vs.toArray n)) (hs : s.heap.IsSliceOf sl .none .none .none) (hz : vs.length <= sizeLine)
  (h : ∀ h' n', h'.get? l = some (seqObj "list" #[] n') -> Heap.SameBut l s.heap h' -> Q () { s with heap := h' }) : wpAny (model prog w) A (delItem (.ref l) (.ref sl)) Q E s := by
 obtain ⟨os, hos, hcs, hds⟩ := id hs
 have hTs : s.TypeIs (.ref sl) "slice" := ⟨os, hos, hcs⟩
 have hTl : s.TypeIs (.ref l) "list" := ⟨_, ho, rfl⟩
 refine wpAny_delItem_slot hTl (by decide) F.slot_list_delitem (wpAny_call_entry F.slot_list_delitem hTl F.entry_list_delitem ?_ (F.args_list_delitem_2 _ _))
 show wpAny _ _ (Builtin.List.listSubscript? (.ref sl) >>= _) _ _ s
 refine wb ?_
 unfold Builtin.List.listSubscript?
 refine wb (wpAny_specialOf hTs slice_no_index ?_)
 simp only [Option.isNone_none, if_true]
 refine wq ?_
 show wpAny _ _ (typeOf (.ref sl) >>= _) _ _ s
 refine wb (wpAny_typeOf hTs ?_)
 rw [if_neg (by decide)]
 rw [listSliceParts_eq]
 refine wb (wb (wpAny_field hos hds (x := .none) rfl (wb (wpAny_listPart .none ?_))))
 rw [if_neg (by decide)]
 refine wb (wpAny_field hos hds (x := .none) rfl (wb (wpAny_listPart .none ?_)))
 refine wb (wpAny_field hos hds (x := .none) rfl (wb (wpAny_listPart .none (wq ?_))))
 refine wb (listItems_at ho rfl ?_)
 refine wb (wpAny_of_eq (sliceIndices_raw none none none vs.toArray.size (by simp)) ?_)
 refine wb (wpAny_rule ?_)
 have hb : sliceBounds none none none vs.toArray.size = (0, (vs.length : Int), 1) := by unfold sliceBounds; simp
 rw [hb]
 dsimp only
 have key : ∀ {f : Array Value -> Array Value} {P : Unit -> Shared -> Prop}, f vs.toArray = #[] -> (∀ h' n', h'.get? l = some (seqObj "list" #[] n') -> Heap.SameBut l s.heap h' -> P () { s with heap := h' }) -> wpAny (model prog w) A.in1 (Builtin.List.listUpdate (.ref l) f) P E s := fun {f P} hf hP => by
  refine listUpdate_at ho rfl ?_ (by rw [List.size_toArray]; exact hz) (by rw [hf]; exact Nat.zero_le _)
  have e2 := IsL.update (h := s.heap) ho f
  rw [hf] at e2
  exact hP _ _ e2 (Heap.SameBut.update s.heap l (Obj.mapSeq f))
 refine wb (key (congrArg List.toArray (List.filterMap_eq_nil_iff.mpr fun x hx => ?_)) fun h' n' e hsb => ?_)
 ·have hk := zip_lt (vs := vs) hx
  have hk' : ((x.2 : Nat) : Int) < (vs.length : Int) := by omega
  refine if_pos ?_
  show (if (1 : Int) > 0 then (decide ((0 : Int) <= (x.2 : Int)) && decide ((x.2 : Int) < (vs.length : Int)) && (((x.2 : Int) - 0) % 1 == 0)) else _) = true
  rw [if_pos (by decide)]
  simp [hk']
 ·refine wb (wpAny_letGo ?_)
  exact wq ⟨_, rfl, h h' n' e hsb⟩
end
section
variable {c : Cx} {env : Env} {σ σ' τ : Store} {s : Shared} {Q : PV -> Store -> Prop} {N : Store -> Prop} {R : PV -> Store -> Prop} {a : SA} {t : St} {L : Addr} {ns : List Str} {vs : List (Option PV)} {pre post : Store}
inductive Kda (N : Store -> Prop) (p : PV) (σ : Store) : Prop
 | mk (d : Addr) (l : List PV) (σ₂ : Store) (e : p = .raw (.ref d)) (u : Up d (.list l) (.list []) σ σ₂) (z : l.length <= sizeLine) (n : N σ₂) : Kda N p σ
theorem X.delall {o : PySem.Expr} {p1 p2 p3 : Pos} (h : E c env o σ (Kda N)) : X c env (.Delete [.Subscript o (.Slice Option.none Option.none Option.none p1) p2] p3) σ N R := fun V A s hA Rp hV => by
 refine wpAny_Delete (wpAny_deleteEach_cons (wpAny_delete_Subscript (W.onr (h V) hA Rp hV (fun v s1 σ1 o1 p rp hq1 => ?_))))
 obtain ⟨d, l, σ₂, e, U, hz, hN⟩ := hq1
 subst e
 have := rp.inv_raw
 subst this
 refine wpAny_Slice (wq (wq (wq ?_)))
 obtain ⟨o2, _⟩ := o1.rep.push_frz { cls := .type "slice", data := .fields #[.none, .none, .none] }
 obtain ⟨ob, e, vs, n, rfl, rv⟩ := o2.rep.cells _ U.mem
 refine delItem_all e (Heap.IsSliceOf.new ..) (by rw [rv.length]; exact hz) fun h' n' e' hs => wpAny_deleteEach_nil ?_
 exact ⟨σ₂, (o1.trans o2).trans (o2.rep.upd (tk := s1.toks) U hs e' ⟨[], n', rfl, .nil⟩ (Nat.le_refl _)), hN⟩
end
noncomputable def fd161 : FuncData := getFd (a := 161) rfl
noncomputable def bd161 : List Stmt := getBody (fd := fd161) rfl
theorem at161 (P : Params) : FnAt P 161 fd161 := by kernel_rfl
theorem ok161 : FnOk fd161 ["text"] [] bd161 := ⟨rfl, rfl, rfl, rfl, by decide +kernel, by decide, by decide +kernel⟩
theorem cd161 (P : Params) : codeIn (KK P) fd161.code fd161.qualname = true := by kernel_rfl
theorem Ca161 {c : Cx} (B : Base c) (hd : c.d < recursionLimit) {l : List Nat} {σ : Store} {Q : PV -> Store -> Prop} (hz : l.length <= 100) (h : Q (.str (Sl (escA l))) σ) : Ca c (.ref 161) [.str (Sl l)] σ Q :=
 Ca.fn B (at161 _) ok161 (cd161 _) hd (fun s V vals _ hv => ⟨vals, by obtain ⟨v, _, rfl, _, hv⟩ := hv.inv_cons; rw [hv.inv_nil]; exact BindsTo.of_eq rfl, hv⟩) rfl (fun L hL => by
  have B := B.up (c.d + 1) (c.u + 3)
  refine Xs.cons (X.try ?_)
  have h1 := esc_room (c := 38) ("&amp;" : Str) (r := ent 38) rfl (by decide) hz
  have h2 := esc_room (c := 60) ("&lt;" : Str) (r := ent 60) rfl (by decide) h1
  have h3 := esc_room (c := 34) ("&quot;" : Str) (r := ent 34) rfl (by decide) h2
  have h4 := esc_room (c := 9) ("&#x9;" : Str) (r := ent 9) rfl (by decide) h3
  have h5 := esc_room (c := 10) ("&#xA;" : Str) (r := ent 10) rfl (by decide) h4
  refine Xs.cons (X.escIf B (ch := 38) hL rfl rfl rfl (room_of hz rfl (by decide)) ?_)
  refine Xs.cons (X.escIf B (ch := 60) hL rfl rfl rfl (room_of h1 rfl (by decide)) ?_)
  refine Xs.cons (X.escIf B (ch := 34) hL rfl rfl rfl (room_of h2 rfl (by decide)) ?_)
  refine Xs.cons (X.escIf B (ch := 9) hL rfl rfl rfl (room_of h3 rfl (by decide)) ?_)
  refine Xs.cons (X.escIf B (ch := 10) hL rfl rfl rfl (room_of h4 rfl (by decide)) ?_)
  refine Xs.cons (X.escIf B (ch := 13) hL rfl rfl rfl (room_of h5 rfl (by decide)) ?_)
  exact Xs.cons (X.return (E.lk hL (.head _) .head ⟨σ, .cons _ (.refl _), h⟩)))
noncomputable def escCs (x : Str) : Str := Sl (escC x.cps.toList)
noncomputable def flush (t : St) : St := { t with data := [], out := if (catS t.data).length ≠ 0 /\ t.seen = true then t.out ++ [escCs (catS t.data)] else t.out }
structure Ok2 (t : St) : Prop where
 dz : (t.data.map (·.length)).sum <= 5000
 dl : t.data.length <= 1000
 ol : t.out.length <= 10000
theorem flush_nil {t : St} (h : t.data = []) : flush t = t := by
 unfold flush
 rw [h]
 have : (catS []).length = 0 := rfl
 rw [this]
 simp
 cases t
 simp at h
 simp [h]
theorem escCs_len {x : Str} {n : Nat} (h : x.length <= n) : (escCs x).length <= 6 * n := by
 unfold escCs
 rw [Sl_len]
 have := (escC_len x.cps.toList).1
 have e : x.cps.toList.length = x.length := by simp [Str.length]
 rw [e] at this
 lia
section
variable {c : Cx} {env : Env} {σ σ' τ : Store} {s : Shared} {Q : PV -> Store -> Prop} {N : Store -> Prop} {R : PV -> Store -> Prop} {a : SA} {t : St} {L : Addr} {ns : List Str} {vs : List (Option PV)} {pre post : Store}
theorem Sf_data {x : List Str} : Up a.data (.list (t.data.map .str)) (.list (x.map .str)) (Sf a t) (Sf a { t with data := x }) := .tail .head
theorem Sf_ps {x : List Bool} : Up a.ps (.list (t.ps.map .bool)) (.list (x.map .bool)) (Sf a t) (Sf a { t with ps := x }) := .tail (.tail (.tail .head))
theorem Sf_seen {b : Bool} : Up a.dx (.inst INS (INV a t)) (.inst INS (INV a { t with seen := b })) (Sf a t) (Sf a { t with seen := b }) := .head
theorem Sf_done {b : Bool} : Up a.dx (.inst INS (INV a t)) (.inst INS (INV a { t with done := b })) (Sf a t) (Sf a { t with done := b }) := .head
theorem Ca154s (B : Base c) (hd : c.d < recursionLimit) {x : Str} (hz : x.length <= 5000) (h : Q (.str (escCs x)) σ) : Ca c (.ref 154) [.str x] σ Q :=
 Ca154 (l := x.cps.toList) B hd (by simpa [Str.length] using hz) h
noncomputable def fd90 : FuncData := getFd (a := 90) rfl
noncomputable def bd90 : List Stmt := getBody (fd := fd90) rfl
theorem at90 (P : Params) : FnAt P 90 fd90 := by kernel_rfl
theorem ok90 : FnOk fd90 ["self", "data"] [] bd90 := ⟨rfl, rfl, rfl, rfl, by decide +kernel, by decide, by decide +kernel⟩
theorem cd90 (P : Params) : codeIn (KK P) fd90.code fd90.qualname = true := by kernel_rfl
theorem Ca90 (B : Base c) (S : Tg c a) (hd : c.d + 1 < recursionLimit) (ok : Ok2 t) {x : Str}
  (h : Q .none (pre ++ (Sf a { t with data := t.data ++ [x] } ++ post))) : Ca c (.ref 90) [.raw (.ref a.x), .str x] (pre ++ (Sf a t ++ post)) Q := by
 refine Ca.fm (pvs' := [.raw (.ref a.x), .str x]) (ns := ["self", "data"]) (vs := [some (.raw (.ref a.x)), some (.str x)]) B (at90 _) ok90 (cd90 _) (by lia)
  (fun s V vals _ hv => ⟨vals, by obtain ⟨v, _, rfl, _, hv⟩ := hv.inv_cons; obtain ⟨v, _, rfl, _, hv⟩ := hv.inv_cons; rw [hv.inv_nil]; exact BindsTo.of_eq rfl, hv⟩) rfl rfl rfl fun L F B' => ?_
 have S' := S.up (c.d + 1) (c.u + 3)
 have hm : ∀ p ∈ Sf a t, p ∈ pre ++ (Sf a t ++ post) := fun p hp => in_mid hp
 have hdl := ok.dl
 refine Xs.cons (X.iff (T.not (T.val (E.sf B' S' F (hm _ Sf_inst) (Tr.int ?_)))))
 rw [if_pos (by decide)]
 have U := Sf_data (a := a) (t := t) (x := t.data ++ [x])
 rw [List.map_append] at U
 refine Xs.cons (X.expr (E.meth (E.sf B' S' F (hm _ Sf_inst) (Gm.append (.tail _ (hm _ (Sf_data (x := [])).mem)) (Es.cons (E.n F (Es.nil ⟨.builtin, Ca.append (.tail (up_mid U)) (le_sz (by rw [lnM]; lia)) (Xs.nil (Xs.nil ⟨_, .cons _ (.refl _), h⟩))⟩)) rfl)))))
noncomputable def fd99 : FuncData := getFd (a := 99) rfl
noncomputable def bd99 : List Stmt := getBody (fd := fd99) rfl
theorem at99 (P : Params) : FnAt P 99 fd99 := by kernel_rfl
theorem ok99 : FnOk fd99 ["self", "_join_text"] ["data", "args", "qname_text"] bd99 := ⟨rfl, rfl, rfl, rfl, by decide +kernel, by decide, by decide +kernel⟩
theorem cd99 (P : Params) : codeIn (KK P) fd99.code fd99.qualname = true := by kernel_rfl
noncomputable def ob92 : Obj := getOb (a := 92) rfl
theorem at92 (P : Params) : (KK P).lookup 92 = some ob92 := by kernel_rfl
noncomputable def getTk {t : Tok} (_ : (KK P0).lookup 91 = some (bmObj "str.join" (.str Str.empty t))) : Tok := t
noncomputable def tk91 : Tok := getTk rfl
theorem at91 (P : Params) : (KK P).lookup 91 = some (bmObj "str.join" (.str Str.empty tk91)) := by kernel_rfl
theorem bind99 (B : Base c) {x : Value} (s : Shared) (V : View) (vals : List Value) (hl : Le c.β s.heap) (hv : VRs V [.raw x] vals) : ∃ vals', BindsTo s fd99 ⟨vals, []⟩ ((["self", "_join_text"] : List Str).zip vals') /\ VRs V [.raw x, .raw (.ref 91)] vals' := by
 obtain ⟨v, _, rfl, r1, hv1⟩ := hv.inv_cons
 have e0 := hv1.inv_nil
 subst e0
 exact ⟨[v, .ref 91], BindsTo.of_defaults (fd := fd99) rfl (B.In hl _ _ (at92 _)) rfl rfl rfl, .cons r1 (.cons (.raw _) .nil)⟩
theorem Ca99 (B : Base c) (S : Tg c a) (hd : c.d + 2 < recursionLimit) (ok : Ok2 t)
  (h : Q .none (pre ++ (Sf a (flush t) ++ post))) : Ca c (.ref 99) [.raw (.ref a.x)] (pre ++ (Sf a t ++ post)) Q := by
 refine Ca.fm (pvs' := [.raw (.ref a.x), .raw (.ref 91)]) (ns := ["self", "_join_text", "data", "args", "qname_text"]) (vs := [some (.raw (.ref a.x)), some (.raw (.ref 91)), none, none, none]) B (at99 _) ok99 (cd99 _) (by lia) (bind99 B) rfl rfl rfl fun L F B' => ?_
 have S' := S.up (c.d + 1) (c.u + 3)
 have hm : ∀ p ∈ Sf a t, p ∈ pre ++ (Sf a t ++ post) := fun p hp => in_mid hp
 have hdl := ok.dl
 have hdz := ok.dz
 have hol := ok.ol
 have hcl : (catS t.data).length <= 5000 := Nat.le_trans (catS_len _) hdz
 refine Xs.cons (X.nm F (E.call (E.n F ⟨_, rfl, Es.cons (E.sf B' S' F (hm _ Sf_inst) (Es.nil ⟨KeeperIs.bm (B'.K _ _ (at91 _)), Ca.bmJoin (xs := t.data) (fun s R => B'.In R.le _ _ (at91 _)) (LV.list (.tail _ (hm _ (Sf_data (x := [])).mem))) (le_sz (by lia)) ⟨_, _, _, rfl, by trivial, ?_⟩⟩)) rfl⟩)))
 refine Xs.cons (X.delall (E.sf B' S' F (hm _ Sf_inst) ⟨_, _, _, rfl, .tail (up_mid (Sf_data (x := []))), le_sz (by rw [lnM]; lia), ?_⟩))
 have hm' : ∀ p ∈ Sf a { t with data := [] }, p ∈ pre ++ (Sf a { t with data := [] } ++ post) := fun p hp => in_mid hp
 refine Xs.cons (X.iff (T.and (and_cons (T.val (E.sf B' S' F (hm' _ Sf_inst) (Tr.bool ?_))))))
 rw [if_neg (by decide), if_neg (by decide)]
 refine Xs.nil (Xs.cons (X.iff (T.cmp (E.sf B' S' F (hm' _ Sf_inst) (E.none (Cmp.isnt_none (Tr.bool ?_)))))))
 rw [if_neg (by decide)]
 refine Xs.nil (Xs.cons (X.iff (T.and (and_cons (T.val (E.nm F (by trivial) (Tr.str (le_sz (by lia)) ?_)))))))
 unfold flush at h
 by_cases hc : (catS t.data).length = 0
 ·rw [if_neg (by simp [hc]), if_neg (by simp)]
  rw [if_neg (by simp [hc])] at h
  exact Xs.nil (Xs.nil ⟨_, .cons _ (.refl _), h⟩)
 ·rw [if_pos (by simp [hc])]
  refine and_cons (T.val (E.sf B' S' F (hm' _ Sf_inst) (Tr.bool ?_)))
  by_cases hs : t.seen = true
  ·rw [if_pos hs]
   rw [if_pos ⟨hc, hs⟩] at h
   refine and_nil ?_
   rw [if_pos rfl]
   refine Xs.cons (X.expr (E.write B' S' F (by trivial) (hm' _ Sf_inst) (E.call (E.globK B' rfl rfl rfl (by kernel_rfl) ⟨_, rfl, Es.cons (E.n F (Es.nil ⟨.fn B' (at154 _), Ca154s B' (show c.d + 1 < recursionLimit by lia) hcl ?_⟩)) rfl⟩))))
   exact Ca.write (pre := (L, _) :: pre) S' (show t.out.length <= 100000 by lia) (Xs.nil (Xs.nil ⟨_, .cons _ (.refl _), h⟩))
  ·rw [if_neg hs, if_neg (by simp)]
   rw [if_neg (by simp [hs])] at h
   exact Xs.nil (Xs.nil ⟨_, .cons _ (.refl _), h⟩)
theorem X.tellN {u : U} {p : Px} {x1 x2 : Str} {p1 p2 p3 p4 p5 p6 p7 p8 p9 p10 : Pos} {k k2 : Nat} (B : Base c) (S : Tg c a) (F : Fm env L ns) (hN : t.N ≠ []) (hz : (flat t.N).length <= 4000) (hs : Lk ns vs "self" (.raw (.ref a.x))) (h1 : Lk ns vs x1 (.str (uS u))) (h2 : Lk ns vs x2 (.str (pS p)))
  (h : N ((L, .loc ns vs) :: (pre ++ (Sf a { t with N := tell t.N (u, p) } ++ post)))) (hi : autoParam (interactive env = false) aRfl)
  (he : autoParam (∃ pl, eval (.Call (.Attribute (.Subscript (.Attribute (.Name "self" p1) "_ns_stack" p2) (.UnaryOp .USub (.Constant (.int 1) k p3) p4) p5) "append" p10) [.Tuple [.Name x1 p6, .Name x2 p7] k2 p8] [] p9) env = (do
   let ov <- eval (.Subscript (.Attribute (.Name "self" p1) "_ns_stack" p2) (.UnaryOp .USub (.Constant (.int 1) k p3) p4) p5) env
   standAt p10.atName
   let (f, first) <- holding [ov] (getMethod ov "append" pl)
   callWith p9 f first (backTo p9 (starEach [.Tuple [.Name x1 p6, .Name x2 p7] k2 p8] env)) [])) aEx) :
  X c env (.Expr (.Call (.Attribute (.Subscript (.Attribute (.Name "self" p1) "_ns_stack" p2) (.UnaryOp .USub (.Constant (.int 1) k p3) p4) p5) "append" p10) [.Tuple [.Name x1 p6, .Name x2 p7] k2 p8] [] p9) p9) ((L, .loc ns vs) :: (pre ++ (Sf a t ++ post))) N R := by
 obtain ⟨pl, he⟩ := he
 obtain ⟨d, ⟨b, l⟩, hN'⟩ := snoc_of hN
 have hm : ∀ p ∈ Sf a t, p ∈ pre ++ (Sf a t ++ post) := fun p hp => in_mid hp
 have hl : (l.map pr).length <= 4000 := by
  rw [hN'] at hz
  simp only [flat, List.reverse_append, List.reverse_cons, List.reverse_nil, List.nil_append, List.cons_append, List.flatMap_cons, List.length_append] at hz
  rw [lnM]; lia
 have hb : (b, Cell.list (l.map pr)) ∈ Sf a t := (Sf_tellN (x := (u, p)) hN').mem
 have hNc := Sf_N (a := a) (t := t)
 rw [hN', refs_snoc] at hNc
 refine X.expr (E.meth (E.sub (E.self B S F hs (hm _ Sf_inst) (by trivial) (by rfl) (E.neg (It.last (.tail _ (hm _ hNc)) (Gm.append (.tail _ (hm _ hb)) (Es.cons (E.tuple (Es.cons (E.nm F h1 (Es.cons (E.nm F h2 (Es.nil ⟨le_sz (by simp), Es.nil ⟨.builtin, Ca.append (.tail (up_mid (Sf_tellN (x := (u, p)) hN'))) (le_sz (by lia)) h⟩⟩)) rfl)) rfl)) rfl)))))) he rfl) hi rfl
theorem K_flush (P : Params) : findIn (KK P) (.ref TC) "_flush" = some (some (.ref 99)) := by kernel_rfl
theorem K_99 (P : Params) : typeIn (KK P) (.ref 99) = some (.type "function") := by kernel_rfl
theorem K_qname (P : Params) : findIn (KK P) (.ref TC) "_qname" = some (some (.ref 83)) := by kernel_rfl
theorem K_83 (P : Params) : typeIn (KK P) (.ref 83) = some (.type "function") := by kernel_rfl
theorem X.flushIf {p1 p2 p3 p4 p5 p6 : Pos} (B : Base c) (S : Tg c a) (F : Fm env L ns) (hd : c.d + 2 < recursionLimit) (ok : Ok2 t) (hs : Lk ns vs "self" (.raw (.ref a.x)))
  (h : N ((L, .loc ns vs) :: (pre ++ (Sf a (flush t) ++ post)))) (hi : autoParam (interactive env = false) aRfl)
  (ht : autoParam (isTrue (.Attribute (.Name "self" p1) "_data" p2) env (eval (.Attribute (.Name "self" p1) "_data" p2) env) = (do let v <- eval (.Attribute (.Name "self" p1) "_data" p2) env; standAt (PySem.Expr.Attribute (.Name "self" p1) "_data" p2).pos; holding [v] (truthy v))) aRfl)
  (he : autoParam (∃ pl, eval (.Call (.Attribute (.Name "self" p3) "_flush" p4) [] [] p5) env = (do
   let ov <- eval (.Name "self" p3) env
   standAt p4.atName
   let (f, first) <- holding [ov] (getMethod ov "_flush" pl)
   callWith p5 f first (backTo p5 (starEach [] env)) [])) aEx) :
  X c env (.If (.Attribute (.Name "self" p1) "_data" p2) [.Expr (.Call (.Attribute (.Name "self" p3) "_flush" p4) [] [] p5) p5] [] p6) ((L, .loc ns vs) :: (pre ++ (Sf a t ++ post))) N R := by
 obtain ⟨pl, he⟩ := he
 have hm : ∀ p ∈ Sf a t, p ∈ pre ++ (Sf a t ++ post) := fun p hp => in_mid hp
 have hdl := ok.dl
 refine X.iff (T.val (E.self B S F hs (hm _ Sf_inst) (by trivial) (by rfl) (Tr.list (.tail _ (hm _ (Sf_data (x := [])).mem)) (le_sz (by rw [lnM]; lia)) ?_)) ht)
 by_cases hc : t.data = []
 ·rw [if_neg (by simp [hc])]
  rw [flush_nil hc] at h
  exact Xs.nil h
 ·rw [if_pos (by simp [hc])]
  refine Xs.cons (X.expr (E.meth (E.nm F hs (Gm.cls B S (.tail _ (hm _ Sf_inst)) (by decide) (K_flush _) (K_99 _) (Es.nil ⟨.fn B (at99 _), ?_⟩))) he rfl) hi rfl)
  exact Ca99 (pre := (L, _) :: pre) B S hd ok (Xs.nil h)
noncomputable def fd106 : FuncData := getFd (a := 106) rfl
noncomputable def bd106 : List Stmt := getBody (fd := fd106) rfl
theorem at106 (P : Params) : FnAt P 106 fd106 := by kernel_rfl
theorem ok106 : FnOk fd106 ["self", "prefix", "uri"] [] bd106 := ⟨rfl, rfl, rfl, rfl, by decide +kernel, by decide, by decide +kernel⟩
theorem cd106 (P : Params) : codeIn (KK P) fd106.code fd106.qualname = true := by kernel_rfl
theorem bind3 {V : View} {fd : FuncData} {x y z : Str} {p q r : PV} {s : Shared} {vals : List Value} (hv : VRs V [p, q, r] vals) (h : ∀ a b d, bindArgs fd ⟨[a, b, d], []⟩ = pure ([x, y, z].zip [a, b, d])) : ∃ vals', BindsTo s fd ⟨vals, []⟩ (([x, y, z] : List Str).zip vals') /\ VRs V [p, q, r] vals' := by
 obtain ⟨v, _, rfl, r1, hv1⟩ := hv.inv_cons
 obtain ⟨w, _, rfl, r2, hv2⟩ := hv1.inv_cons
 obtain ⟨u, _, rfl, r3, hv3⟩ := hv2.inv_cons
 have e0 := hv3.inv_nil
 subst e0
 exact ⟨_, BindsTo.of_eq (h _ _ _), hv⟩
theorem bind2 {V : View} {fd : FuncData} {x y : Str} {p q : PV} {s : Shared} {vals : List Value} (hv : VRs V [p, q] vals) (h : ∀ a b, bindArgs fd ⟨[a, b], []⟩ = pure ([x, y].zip [a, b])) : ∃ vals', BindsTo s fd ⟨vals, []⟩ (([x, y] : List Str).zip vals') /\ VRs V [p, q] vals' := by
 obtain ⟨v, _, rfl, r1, hv1⟩ := hv.inv_cons
 obtain ⟨w, _, rfl, r2, hv2⟩ := hv1.inv_cons
 have e0 := hv2.inv_nil
 subst e0
 exact ⟨_, BindsTo.of_eq (h _ _), hv⟩
noncomputable def nsSt (t : St) (x : U × Px) : St := { flush t with N := tell t.N x }
theorem Ca106 (B : Base c) (S : Tg c a) (hd : c.d + 3 < recursionLimit) (ok : Ok2 t) (hN : t.N ≠ []) (hz : (flat t.N).length <= 4000) {u : U} {p : Px}
  (h : Q .none (pre ++ (Sf a (nsSt t (u, p)) ++ post))) : Ca c (.ref 106) [.raw (.ref a.x), .str (pS p), .str (uS u)] (pre ++ (Sf a t ++ post)) Q := by
 refine Ca.fm (pvs' := [.raw (.ref a.x), .str (pS p), .str (uS u)]) (ns := ["self", "prefix", "uri"]) (vs := [some (.raw (.ref a.x)), some (.str (pS p)), some (.str (uS u))]) B (at106 _) ok106 (cd106 _) (by lia)
  (fun s V vals _ hv => bind3 hv fun _ _ _ => rfl) rfl rfl rfl fun L F B' => ?_
 have S' := S.up (c.d + 1) (c.u + 3)
 have hm : ∀ p ∈ Sf a t, p ∈ pre ++ (Sf a t ++ post) := fun p hp => in_mid hp
 refine Xs.cons (X.iff (T.val (E.sf B' S' F (hm _ Sf_inst) (Tr.int ?_))))
 rw [if_neg (by decide)]
 refine Xs.nil (Xs.cons (X.flushIf B' S' F (show c.d + 1 + 2 < recursionLimit by lia) ok (by trivial) ?_))
 exact Xs.cons (X.tellN B' S' F hN hz (by trivial) (by trivial) (by trivial) (Xs.nil ⟨_, .cons _ (.refl _), h⟩))
noncomputable def fd133 : FuncData := getFd (a := 133) rfl
noncomputable def bd133 : List Stmt := getBody (fd := fd133) rfl
theorem at133 (P : Params) : FnAt P 133 fd133 := by kernel_rfl
theorem ok133 : FnOk fd133 ["self", "text"] [] bd133 := ⟨rfl, rfl, rfl, rfl, by decide +kernel, by decide, by decide +kernel⟩
theorem cd133 (P : Params) : codeIn (KK P) fd133.code fd133.qualname = true := by kernel_rfl
noncomputable def outSt (t : St) (x : Str) : St := { flush t with out := (flush t).out ++ [x] }
theorem flush_ol {t : St} (ok : Ok2 t) : (flush t).out.length <= 10001 := by
 have := ok.ol
 unfold flush
 dsimp only
 split
 ·rw [List.length_append]; simp; lia
 ·lia
theorem Ca133 (B : Base c) (S : Tg c a) (hd : c.d + 3 < recursionLimit) (ok : Ok2 t) (hs : t.seen = true) (hdn : t.done = false) {x : Str} (hx : x.length <= 100)
  (h : Q .none (pre ++ (Sf a (outSt t (("<!--" : Str) ++ escCs x ++ "-->")) ++ post))) : Ca c (.ref 133) [.raw (.ref a.x), .str x] (pre ++ (Sf a t ++ post)) Q := by
 refine Ca.fm (pvs' := [.raw (.ref a.x), .str x]) (ns := ["self", "text"]) (vs := [some (.raw (.ref a.x)), some (.str x)]) B (at133 _) ok133 (cd133 _) (by lia)
  (fun s V vals _ hv => bind2 hv fun _ _ => rfl) rfl rfl rfl fun L F B' => ?_
 have S' := S.up (c.d + 1) (c.u + 3)
 have hm : ∀ p ∈ Sf a t, p ∈ pre ++ (Sf a t ++ post) := fun p hp => in_mid hp
 have hm' : ∀ p ∈ Sf a (flush t), p ∈ pre ++ (Sf a (flush t) ++ post) := fun p hp => in_mid hp
 have hdl := ok.dl
 have hfl := flush_ol ok
 have hxl := escCs_len hx
 refine Xs.cons (X.iff (T.not (T.val (E.sf B' S' F (hm _ Sf_inst) (Tr.bool ?_)))))
 rw [if_neg (by decide)]
 refine Xs.nil (Xs.cons (X.iff (T.val (E.sf B' S' F (hm _ Sf_inst) (Tr.int ?_)))))
 rw [if_neg (by decide)]
 have wr : Xs { c with d := c.d + 1, u := c.u + 3 } (callEnv fd133 L 133) (bd133.drop 3) ((L, .loc ["self", "text"] [some (.raw (.ref a.x)), some (.str x)]) :: (pre ++ (Sf a (flush t) ++ post))) (fun σ' => fin Q .none σ') (fin Q) := by
  refine Xs.cons (X.expr (E.write B' S' F (by trivial) (hm' _ Sf_inst) (E.fstr (Jo.cons (E.str ⟨_, rfl, le_sz (by rw [Str.empty_append]; decide), Jo.cons (E.fmt (E.call (E.globK B' rfl rfl rfl (by kernel_rfl) ⟨_, rfl, Es.cons (E.nm F (by trivial) (Es.nil ⟨.fn B' (at154 _), Ca154s B' (show c.d + 1 < recursionLimit by lia) (by lia) ⟨_, rfl, le_sz (by lia), _, rfl, ?_, Jo.cons (E.str ⟨_, rfl, ?_, Jo.nil ?_ ?_⟩)⟩⟩)) rfl⟩)))⟩)))))
  ·refine le_sz ?_
   rw [str_len_append, Str.empty_append]
   have : ("<!--" : Str).length = 4 := rfl
   lia
  ·refine le_sz ?_
   rw [str_len_append, str_len_append, Str.empty_append]
   have : ("<!--" : Str).length = 4 := rfl
   have : ("-->" : Str).length = 3 := rfl
   lia
  ·refine le_sz ?_
   rw [str_len_append, str_len_append, Str.empty_append]
   have : ("<!--" : Str).length = 4 := rfl
   have : ("-->" : Str).length = 3 := rfl
   lia
  rw [Str.empty_append]
  refine Ca.write (pre := (L, _) :: pre) S' (show (flush t).out.length <= 100000 by lia) ?_
  have hm2 : ∀ p ∈ Sf a (outSt t (("<!--" : Str) ++ escCs x ++ "-->")), p ∈ pre ++ (Sf a (outSt t (("<!--" : Str) ++ escCs x ++ "-->")) ++ post) := fun p hp => in_mid hp
  refine Xs.cons (X.iff (T.not (T.val (E.sf (t := outSt t (("<!--" : Str) ++ escCs x ++ "-->")) B' S' F (hm2 _ Sf_inst) (Tr.bool ?_)))))
  rw [show (outSt t (("<!--" : Str) ++ escCs x ++ "-->")).seen = true from hs, if_neg (by decide)]
  exact Xs.nil (Xs.nil ⟨_, .cons _ (.refl _), h⟩)
 refine Xs.nil (Xs.cons (X.iff (T.val (E.sf B' S' F (hm _ Sf_inst) (Tr.bool ?_)))))
 rw [hdn, if_neg (by decide)]
 refine Xs.cons (X.iff (T.and (and_cons (T.val (E.sf B' S' F (hm _ Sf_inst) (Tr.bool ?_))))))
 rw [if_pos hs]
 refine and_cons (T.val (E.sf B' S' F (hm _ Sf_inst) (Tr.list (.tail _ (hm _ (Sf_data (x := [])).mem)) (le_sz (by rw [lnM]; lia)) ?_)))
 by_cases hc : t.data = []
 ·rw [if_neg (by simp [hc]), if_neg (by simp)]
  rw [flush_nil hc] at wr
  exact Xs.nil (Xs.nil wr)
 ·rw [if_pos (by simp [hc])]
  refine and_nil ?_
  rw [if_pos rfl]
  refine Xs.cons (X.expr (E.meth (E.n F (Gm.cls B' S' (.tail _ (hm _ Sf_inst)) (by decide) (K_flush _) (K_99 _) (Es.nil ⟨.fn B' (at99 _), ?_⟩)))))
  exact Ca99 (pre := (L, _) :: pre) B' S' (show c.d + 1 + 2 < recursionLimit by lia) ok (Xs.nil (Xs.nil wr))
noncomputable def fd140 : FuncData := getFd (a := 140) rfl
noncomputable def bd140 : List Stmt := getBody (fd := fd140) rfl
theorem at140 (P : Params) : FnAt P 140 fd140 := by kernel_rfl
theorem ok140 : FnOk fd140 ["self", "target", "data"] [] bd140 := ⟨rfl, rfl, rfl, rfl, by decide +kernel, by decide, by decide +kernel⟩
theorem cd140 (P : Params) : codeIn (KK P) fd140.code fd140.qualname = true := by kernel_rfl
noncomputable def piS (x : Str) : Str := if x.length ≠ 0 then ("<?" : Str) ++ "t" ++ " " ++ escCs x ++ "?>" else ("<?" : Str) ++ "t" ++ "?>"
theorem Ca140 (B : Base c) (S : Tg c a) (hd : c.d + 3 < recursionLimit) (ok : Ok2 t) (hs : t.seen = true) (hdn : t.done = false) {x : Str} (hx : x.length <= 100)
  (h : Q .none (pre ++ (Sf a (outSt t (piS x)) ++ post))) : Ca c (.ref 140) [.raw (.ref a.x), .str "t", .str x] (pre ++ (Sf a t ++ post)) Q := by
 refine Ca.fm (pvs' := [.raw (.ref a.x), .str "t", .str x]) (ns := ["self", "target", "data"]) (vs := [some (.raw (.ref a.x)), some (.str "t"), some (.str x)]) B (at140 _) ok140 (cd140 _) (by lia)
  (fun s V vals _ hv => bind3 hv fun _ _ _ => rfl) rfl rfl rfl fun L F B' => ?_
 have S' := S.up (c.d + 1) (c.u + 3)
 have hm : ∀ p ∈ Sf a t, p ∈ pre ++ (Sf a t ++ post) := fun p hp => in_mid hp
 have hm' : ∀ p ∈ Sf a (flush t), p ∈ pre ++ (Sf a (flush t) ++ post) := fun p hp => in_mid hp
 have hdl := ok.dl
 have hfl := flush_ol ok
 have hxl := escCs_len hx
 have l1 : ("<?" : Str).length = 2 := rfl
 have l2 : ("t" : Str).length = 1 := rfl
 have l3 : (" " : Str).length = 1 := rfl
 have l4 : ("?>" : Str).length = 2 := rfl
 refine Xs.cons (X.iff (T.val (E.sf B' S' F (hm _ Sf_inst) (Tr.int ?_))))
 rw [if_neg (by decide)]
 have wr : Xs { c with d := c.d + 1, u := c.u + 3 } (callEnv fd140 L 140) (bd140.drop 2) ((L, .loc ["self", "target", "data"] [some (.raw (.ref a.x)), some (.str "t"), some (.str x)]) :: (pre ++ (Sf a (flush t) ++ post))) (fun σ' => fin Q .none σ') (fin Q) := by
  refine Xs.cons (X.expr (E.write B' S' F (by trivial) (hm' _ Sf_inst) (E.mono (Q := fun p σ' => p = .str (piS x) /\ σ' = (L, .loc ["self", "target", "data"] [some (.raw (.ref a.x)), some (.str "t"), some (.str x)]) :: (pre ++ (Sf a (flush t) ++ post))) (E.ifexp (T.val (E.nm F (by trivial) (Tr.str (le_sz (by lia)) ?_)))) fun p σ' ⟨e1, e2⟩ => ?_)))
  ·unfold piS
   by_cases hc : x.length = 0
   ·rw [if_neg (by simp [hc]), if_neg (by simp [hc])]
    refine E.fstr (Jo.cons (E.str ⟨_, rfl, ?_, Jo.cons (E.fmt (E.nm F (by trivial) ⟨_, rfl, ?_, _, rfl, ?_, Jo.cons (E.str ⟨_, rfl, ?_, Jo.nil ?_ ⟨?_, rfl⟩⟩)⟩))⟩))
    all_goals first | (refine le_sz ?_; (try simp only [str_len_append, Str.empty_append]); lia) | (rw [Str.empty_append])
   ·rw [if_pos (by simp [hc]), if_pos hc]
    refine E.fstr (Jo.cons (E.str ⟨_, rfl, ?_, Jo.cons (E.fmt (E.nm F (by trivial) ⟨_, rfl, ?_, _, rfl, ?_, Jo.cons (E.str ⟨_, rfl, ?_, Jo.cons (E.fmt (E.call (E.globK B' rfl rfl rfl (by kernel_rfl) ⟨_, rfl, Es.cons (E.nm F (by trivial) (Es.nil ⟨.fn B' (at154 _), Ca154s B' (show c.d + 1 < recursionLimit by lia) (by lia) ⟨_, rfl, le_sz (by lia), _, rfl, ?_, Jo.cons (E.str ⟨_, rfl, ?_, Jo.nil ?_ ⟨?_, rfl⟩⟩)⟩⟩)) rfl⟩)))⟩)⟩))⟩))
    all_goals first | (refine le_sz ?_; (try simp only [str_len_append, Str.empty_append]); lia) | (rw [Str.empty_append])
  ·subst e1 e2
   refine Ca.write (pre := (L, _) :: pre) S' (show (flush t).out.length <= 100000 by lia) ?_
   have hm2 : ∀ p ∈ Sf a (outSt t (piS x)), p ∈ pre ++ (Sf a (outSt t (piS x)) ++ post) := fun p hp => in_mid hp
   refine Xs.cons (X.iff (T.not (T.val (E.sf (t := outSt t (piS x)) B' S' F (hm2 _ Sf_inst) (Tr.bool ?_)))))
   rw [show (outSt t (piS x)).seen = true from hs, if_neg (by decide)]
   exact Xs.nil (Xs.nil ⟨_, .cons _ (.refl _), h⟩)
 refine Xs.nil (Xs.cons (X.iff (T.val (E.sf B' S' F (hm _ Sf_inst) (Tr.bool ?_)))))
 rw [hdn, if_neg (by decide)]
 refine Xs.cons (X.iff (T.and (and_cons (T.val (E.sf B' S' F (hm _ Sf_inst) (Tr.bool ?_))))))
 rw [if_pos hs]
 refine and_cons (T.val (E.sf B' S' F (hm _ Sf_inst) (Tr.list (.tail _ (hm _ (Sf_data (x := [])).mem)) (le_sz (by rw [lnM]; lia)) ?_)))
 by_cases hc : t.data = []
 ·rw [if_neg (by simp [hc]), if_neg (by simp)]
  rw [flush_nil hc] at wr
  exact Xs.nil (Xs.nil wr)
 ·rw [if_pos (by simp [hc])]
  refine and_nil ?_
  rw [if_pos rfl]
  refine Xs.cons (X.expr (E.meth (E.n F (Gm.cls B' S' (.tail _ (hm _ Sf_inst)) (by decide) (K_flush _) (K_99 _) (Es.nil ⟨.fn B' (at99 _), ?_⟩)))))
  exact Ca99 (pre := (L, _) :: pre) B' S' (show c.d + 1 + 2 < recursionLimit by lia) ok (Xs.nil (Xs.nil wr))
noncomputable def fd126 : FuncData := getFd (a := 126) rfl
noncomputable def bd126 : List Stmt := getBody (fd := fd126) rfl
theorem at126 (P : Params) : FnAt P 126 fd126 := by kernel_rfl
theorem ok126 : FnOk fd126 ["self", "tag"] [] bd126 := ⟨rfl, rfl, rfl, rfl, by decide +kernel, by decide, by decide +kernel⟩
theorem cd126 (P : Params) : codeIn (KK P) fd126.code fd126.qualname = true := by kernel_rfl
theorem Ok.flush {t : St} (h : Ok t) : Ok (flush t) := ⟨h.D, h.Dl, h.Df, h.Nl, h.Nf, h.pm, h.pm0⟩
theorem wn_len (p : Px) (l : Bool) : (wn p l).length <= 12 := by revert p l; decide +kernel
noncomputable def SfX (a : SA) (t : St) (X : Store) : Store := (a.dx, .inst INS (INV a t)) :: (a.data, .list (t.data.map .str)) :: (a.out, .list (t.out.map .str)) :: (a.ps, .list (t.ps.map .bool)) :: (a.pm, .dict (pmL t.pm)) :: (a.D, .list (refs (pl t.D))) :: (a.N, .list (refs (pl t.N))) :: X
theorem Sf_X : Sf a t = SfX a t (lsts (pl t.D) ++ lsts (pl t.N)) := rfl
noncomputable def endSt (t : St) (r : Px × Bool × Bool) (n : U × Bool) : St :=
 let t2 := qst (flush t) n.1 r
 { t2 with out := t2.out ++ [("</" : Str) ++ wn r.1 n.2 ++ ">"], ps := t2.ps.dropLast, done := (t2.ps.dropLast.length == 1), D := t2.D.dropLast, N := t2.N.dropLast }
theorem pl_sub {d : Lv} : (lsts (pl d.dropLast)).Sublist (lsts (pl d)) := by
 unfold lsts pl
 exact ((List.dropLast_sublist d).map _).map _
theorem tell_ne {D : Lv} {x : U × Px} (h : D ≠ []) : tell D x ≠ [] := by
 obtain ⟨d, ⟨b, l⟩, rfl⟩ := snoc_of h
 rw [tell_snoc]
 simp
theorem map_snoc {α β : Type} {l : List α} (f : α -> β) (h : l ≠ []) : l.map f = l.dropLast.map f ++ [f (l.getLast h)] := by
 conv => lhs; rw [<- List.dropLast_concat_getLast h]
 rw [List.map_append]
 rfl
theorem refs_drop {d : Lv} (h : d ≠ []) : refs (pl d) = refs (pl d.dropLast) ++ [.raw (.ref (d.getLast h).1)] := by
 conv => lhs; rw [<- List.dropLast_concat_getLast h]
 rw [refs_snoc]
theorem SfX_sub {a : SA} {u : St} {X Y : Store} (h : X.Sublist Y) : (SfX a u X).Sublist (SfX a u Y) := .cons_cons _ (.cons_cons _ (.cons_cons _ (.cons_cons _ (.cons_cons _ (.cons_cons _ (.cons_cons _ h))))))
theorem Ca126 (B : Base c) (S : Tg c a) (hd : c.d + 3 < recursionLimit) (ok : Ok2 t) (ok1 : Ok t) (hN : t.N ≠ []) (hps : t.ps ≠ []) (hpl : t.ps.length <= 1000) {n : U × Bool} {r : Px × Bool × Bool} (hq : qn (flush t) n.1 = some r)
  (h : Q .none (pre ++ (Sf a (endSt t r n) ++ post))) : Ca c (.ref 126) [.raw (.ref a.x), .str (nmS n)] (pre ++ (Sf a t ++ post)) Q := by
 refine Ca.fm (pvs' := [.raw (.ref a.x), .str (nmS n)]) (ns := ["self", "tag"]) (vs := [some (.raw (.ref a.x)), some (.str (nmS n))]) B (at126 _) ok126 (cd126 _) (by lia)
  (fun s V vals _ hv => bind2 hv fun _ _ => rfl) rfl rfl rfl fun L F B' => ?_
 have S' := S.up (c.d + 1) (c.u + 3)
 have hm : ∀ p ∈ Sf a t, p ∈ pre ++ (Sf a t ++ post) := fun p hp => in_mid hp
 have hm' : ∀ p ∈ Sf a (flush t), p ∈ pre ++ (Sf a (flush t) ++ post) := fun p hp => in_mid hp
 have hfl := flush_ol ok
 have l1 : ("</" : Str).length = 2 := rfl
 have l4 : (">" : Str).length = 1 := rfl
 have hwn := wn_len r.1 n.2
 refine Xs.cons (X.iff (T.val (E.sf B' S' F (hm _ Sf_inst) (Tr.int ?_))))
 rw [if_neg (by decide)]
 refine Xs.nil (Xs.cons (X.flushIf B' S' F (show c.d + 1 + 2 < recursionLimit by lia) ok (by trivial) ?_))
 refine Xs.cons (X.expr (E.write B' S' F (by trivial) (hm' _ Sf_inst) (E.fstr (Jo.cons (E.str ⟨_, rfl, le_sz (by rw [Str.empty_append]; decide), Jo.cons (E.fmt (E.sub (E.meth (E.n F (Gm.cls B' S' (.tail _ (hm' _ Sf_inst)) (by decide) (K_qname _) (K_83 _) (Es.cons (E.n F (Es.nil ⟨.fn B' (at83 _), ?_⟩))))) rfl)))⟩)))))
 refine Ca83 (pre := (L, _) :: pre) B' S' (show c.d + 1 + 1 < recursionLimit by lia) ok1.flush hq (E.int (It.tup (j := 0) (by decide) (by decide) rfl rfl ⟨_, rfl, le_sz (by lia), _, rfl, ?_, Jo.cons (E.str ⟨_, rfl, ?_, Jo.nil ?_ ?_⟩)⟩))
 all_goals try (refine le_sz ?_; simp only [str_len_append, Str.empty_append]; lia)
 rw [Str.empty_append]
 generalize hu : qst (flush t) n.1 r = u at h ⊢
 have hud : u.D ≠ [] := by
  rw [<- hu]
  unfold qst
  dsimp only
  split
  ·exact tell_ne ok1.D
  ·exact ok1.D
 have huN : u.N ≠ [] := by rw [<- hu]; exact hN
 have hup : u.ps ≠ [] := by rw [<- hu]; exact hps
 have hupl : u.ps.length <= 1000 := by rw [<- hu]; exact hpl
 have huo : u.out.length <= 100000 := by rw [<- hu]; show (flush t).out.length <= 100000; lia
 have hes : endSt t r n = { u with out := u.out ++ [("</" : Str) ++ wn r.1 n.2 ++ ">"], ps := u.ps.dropLast, done := (u.ps.dropLast.length == 1), D := u.D.dropLast, N := u.N.dropLast } := by
  unfold endSt
  rw [hu]
 rw [hes] at h
 refine Ca.write (pre := (L, _) :: pre) S' huo ?_
 generalize u.out ++ [("</" : Str) ++ wn r.1 n.2 ++ ">"] = o2 at h ⊢
 have hm2 : ∀ p ∈ Sf a { u with out := o2 }, p ∈ pre ++ (Sf a { u with out := o2 } ++ post) := fun p hp => in_mid hp
 have U1 := Sf_ps (a := a) (t := { u with out := o2 }) (x := u.ps.dropLast)
 rw [map_snoc PV.bool hup] at U1
 refine Xs.cons (X.expr (E.meth (E.sf (t := { u with out := o2 }) B' S' F (hm2 _ Sf_inst) (Gm.pop (.tail _ (hm2 _ U1.mem)) (Es.nil ⟨.builtin, Ca.pop (.tail (up_mid U1)) ?_ ?_⟩)))))
 ·rw [lnM, List.length_dropLast, sizeLine_eq]; exact Nat.lt_of_le_of_lt (nD hupl (Nat.le_refl _)) (by decide)
 have hm3 : ∀ p ∈ Sf a { u with out := o2, ps := u.ps.dropLast }, p ∈ pre ++ (Sf a { u with out := o2, ps := u.ps.dropLast } ++ post) := fun p hp => in_mid hp
 refine Xs.cons (X.self B' S' F (E.cmp (E.call (E.globB B' rfl rfl rfl rfl (by kernel_rfl) rfl ⟨_, rfl, Es.cons (E.sf (t := { u with out := o2, ps := u.ps.dropLast }) B' S' F (hm3 _ Sf_inst) (Es.nil ⟨.builtin, Ca.len_list (l := u.ps.dropLast.map .bool) (LV.list (.tail _ (hm3 _ (Sf_ps (x := [])).mem))) (le_sz (by rw [lnM, List.length_dropLast]; exact nD hupl (by decide))) ?_⟩)) rfl⟩))))
 refine E.int (Cmp.eq_int ?_)
 have eb : (((u.ps.dropLast.map PV.bool).length : Int) == 1) = (u.ps.dropLast.length == 1) := by
  rw [lnM]; exact nJ _
 rw [eb]
 refine ⟨{ u with out := o2, ps := u.ps.dropLast }, _, _, _, _, rfl, by trivial, by trivial, up_mid (Sf_done (b := u.ps.dropLast.length == 1)), ?_⟩
 generalize hv : ({ u with out := o2, ps := u.ps.dropLast, done := (u.ps.dropLast.length == 1) } : St) = v
 have hm4 : ∀ p ∈ Sf a v, p ∈ pre ++ (Sf a v ++ post) := fun p hp => in_mid hp
 have hvD : v.D ≠ [] := by rw [<- hv]; exact hud
 have hvN : v.N ≠ [] := by rw [<- hv]; exact huN
 have eh : ({ u with out := o2, ps := u.ps.dropLast, done := (u.ps.dropLast.length == 1), D := u.D.dropLast, N := u.N.dropLast } : St) = { v with D := v.D.dropLast, N := v.N.dropLast } := by rw [<- hv]
 rw [eh] at h
 have hvl : v.D.length <= 1000 /\ v.N.length <= 1000 := by
  rw [<- hv]
  refine ⟨?_, ?_⟩
  ·show u.D.length <= 1000
   rw [<- hu]
   unfold qst
   dsimp only
   split
   ·obtain ⟨d, ⟨b, l⟩, e⟩ := snoc_of (show (flush t).D ≠ [] from ok1.D)
    have := ok1.Dl
    rw [show t.D = d ++ [(b, l)] from e] at this
    rw [e, tell_snoc]
    simpa using this
   ·exact ok1.Dl
  ·show u.N.length <= 1000
   rw [<- hu]
   exact ok1.Nl
 have U2 : Up a.D (.list (refs (pl v.D.dropLast) ++ [.raw (.ref (v.D.getLast hvD).1)])) (.list (refs (pl v.D.dropLast))) (Sf a v) (SfX a { v with D := v.D.dropLast } (lsts (pl v.D) ++ lsts (pl v.N))) := by
  rw [<- refs_drop hvD]
  exact .tail (.tail (.tail (.tail (.tail .head))))
 have U3 : Up a.N (.list (refs (pl v.N.dropLast) ++ [.raw (.ref (v.N.getLast hvN).1)])) (.list (refs (pl v.N.dropLast))) (SfX a { v with D := v.D.dropLast } (lsts (pl v.D) ++ lsts (pl v.N))) (SfX a { v with D := v.D.dropLast, N := v.N.dropLast } (lsts (pl v.D) ++ lsts (pl v.N))) := by
  rw [<- refs_drop hvN]
  exact .tail (.tail (.tail (.tail (.tail (.tail .head)))))
 refine Xs.cons (X.expr (E.meth (E.sf B' S' F (hm4 _ Sf_inst) (Gm.pop (.tail _ (hm4 _ U2.mem)) (Es.nil ⟨.builtin, Ca.pop (.tail (up_mid U2)) ?_ ?_⟩)))))
 ·unfold refs pl; rw [lnM, lnM, List.length_dropLast, sizeLine_eq]; exact Nat.lt_of_le_of_lt (nD hvl.1 (Nat.le_refl _)) (by decide)
 refine Xs.cons (X.expr (E.meth (E.sf (t := { v with D := v.D.dropLast }) B' S' F (in_mid (.head _)) (Gm.pop (.tail _ (in_mid U3.mem)) (Es.nil ⟨.builtin, Ca.pop (.tail (up_mid U3)) ?_ ?_⟩)))))
 ·unfold refs pl; rw [lnM, lnM, List.length_dropLast, sizeLine_eq]; exact Nat.lt_of_le_of_lt (nD hvl.2 (Nat.le_refl _)) (by decide)
 refine Xs.nil ⟨_, .cons _ (List.Sublist.append (.refl _) (List.Sublist.append ?_ (.refl _))), h⟩
 rw [Sf_X]
 exact SfX_sub (List.Sublist.append pl_sub pl_sub)
end
noncomputable def CellIs : Option PV -> Obj -> Prop
 | none, o => o.data = .cell none
 | some (.raw v), o => o.data = .cell (some v)
 | some (.str x), o => ∃ t, o.data = .cell (some (.str x t))
 | _, _ => False
section
variable {c : Cx} {env : Env} {σ σ' τ : Store} {s : Shared} {Q : PV -> Store -> Prop} {N : Store -> Prop} {R : PV -> Store -> Prop} {L : Addr} {ns : List Str} {vs : List (Option PV)}
theorem CellIs.val {p : PV} {o : Obj} (h : CellIs (some p) o) : ∃ v, o.data = .cell (some v) /\ ∀ V, VR V p v := by
 cases p with
 | raw v => exact ⟨v, h, fun _ => .raw v⟩
 | str x => exact h.elim fun t h => ⟨.str x t, h, fun _ => .str x t⟩
 | _ => exact h.elim
theorem Rep.isCell (R : Rep c σ s) {cc : Addr} {p : PV} (hm : (cc, Cell.that (CellIs (some p))) ∈ σ) : ∃ v, s.heap.IsCell cc (some v) /\ VR (vw c.F σ s) p v := by
 obtain ⟨o, e, h⟩ := R.cells _ hm
 exact h.val.elim fun v h => ⟨v, ⟨o, e, h.1⟩, h.2 _⟩
theorem E.cell {x : Str} {pos : Pos} {cc : Addr} {p : PV} (hk : env.scope.kind = .function) (hl : env.kindOf x = some .cell) (hc : env.cells.lookup x = some cc) (hm : (cc, Cell.that (CellIs (some p))) ∈ σ) (h : Q p σ) (hd : autoParam ((x == ("__debug__" : Str)) = false) aDec) : E c env (.Name x pos) σ Q := fun V A s hA Rp hV => by
 obtain ⟨v, hv, r⟩ := Rp.isCell hm
 exact wpAny_Name (wpAny_loadName_cell hk hl hc hv (ret_here Rp r h)) hd
theorem CellIs.of {V : View} {p : PV} {v : Value} {o : Obj} (hv : VR V p v) (hp : (∃ u, p = .raw u) \/ ∃ x, p = .str x) (h : o.data = .cell (some v)) : CellIs (some p) o := by
 rcases hp with ⟨u, rfl⟩ | ⟨x, rfl⟩
 ·have := hv.inv_raw
  subst this
  exact h
 ·obtain ⟨t, rfl⟩ := hv.inv_str
  exact ⟨t, h⟩
theorem W.stc {x : Str} {cc : Addr} {p : PV} {q : Option PV} {v : Value} {V : View} {Q : Unit -> View -> Store -> Prop} (hk : env.scope.kind = .function) (hl : env.kindOf x = some .cell) (hc : env.cells.lookup x = some cc) (hv : VR V p v) (hp : (∃ u, p = .raw u) \/ ∃ x, p = .str x)
  (U : Up cc (.that (CellIs q)) (.that (CellIs (some p))) σ σ') (h : ∀ V', VLe V V' -> Q () V' σ') : W c (storeName env x v) V σ Q := fun A s hA Rp hV => by
 obtain ⟨o, e, hq⟩ := Rp.cells _ U.mem
 have hic : ∃ v0, s.heap.IsCell cc v0 := by
  rcases q with _ | q
  ·exact ⟨_, o, e, hq⟩
  ·exact (hq.val).elim fun v h => ⟨_, o, e, h.1⟩
 obtain ⟨v0, hv0⟩ := hic
 refine wpAny_storeName_cell hk hl hc hv0 fun h' hc' hs => ?_
 obtain ⟨o', e', hd'⟩ := hc'
 have out := Rp.upd (tk := s.toks) U hs e' (CellIs.of hv hp hd') (Nat.le_refl _)
 exact ⟨σ', out, h _ (hV.trans out.view)⟩
noncomputable def Stores (c : Cx) (env : Env) : List (Str × PV) -> Store -> (Store -> Prop) -> Prop
 | [], σ, N => N σ
 | (x, p) :: l, σ, N => ∀ V v, VR V p v -> W c (storeName env x v) V σ (fun _ _ σ' => Stores c env l σ' N)
theorem Stores.su {x : Str} {p : PV} {l : List (Str × PV)} {vs' : List (Option PV)} (F : Fm env L ns) (hs : Su x p ns vs vs') (h : Stores c env l ((L, .loc ns vs') :: τ) N) : Stores c env ((x, p) :: l) ((L, .loc ns vs) :: τ) N := fun V v hv =>
 W.su (c := c) (Q := fun _ _ σ' => Stores c env l σ' N) F.lo F.loc hv hs fun _ _ => h
theorem Stores.cell {x : Str} {p : PV} {cc : Addr} {q : Option PV} {l : List (Str × PV)} (hk : env.scope.kind = .function) (hl : env.kindOf x = some .cell) (hc : env.cells.lookup x = some cc) (hp : (∃ u, p = .raw u) \/ ∃ x, p = .str x)
  (U : Up cc (.that (CellIs q)) (.that (CellIs (some p))) σ σ') (h : Stores c env l σ' N) : Stores c env ((x, p) :: l) σ N := fun V v hv =>
 W.stc (c := c) (Q := fun _ _ σ' => Stores c env l σ' N) hk hl hc hv hp U fun _ _ => h
theorem stores_run {A : Around} (hA : AOk c A) {f : Str × Value -> PUnit -> Sem (ForInStep PUnit)} (hf : ∀ n v u, f (n, v) u = (do storeName env n v; pure (.yield ⟨⟩))) (ps : List Str) : ∀ (qs : List PV) (vals : List Value) (σ : Store) (s : Shared) (N : Store -> Prop), ps.length = qs.length -> Stores c env (ps.zip qs) σ N -> Rep c σ s -> VRs (vw c.F σ s) qs vals ->
  wpAny c.M A (forIn (ps.zip vals) ⟨⟩ f) (fun _ s' => ∃ σ', Out c σ s σ' s' /\ N σ') (fun _ _ => False) s := by
 induction ps with
 | nil =>
  intro qs vals σ s N hl h R hv
  cases qs with
  | nil => rw [List.zip_nil_left, List.forIn_nil]; exact wq ⟨σ, .refl R, h⟩
  | cons => cases hl
 | cons x ps ih =>
  intro qs vals σ s N hl h R hv
  cases qs with
  | nil => cases hl
  | cons q qs =>
   obtain ⟨v, vals', rfl, r, hv'⟩ := hv.inv_cons
   rw [List.zip_cons_cons, List.forIn_cons, hf]
   refine wb (wb (W.on (h _ v r) hA R (.refl _) (fun _ s1 σ1 o1 h1 => wq ?_)))
   exact wm (ih qs vals' σ1 s1 N (Nat.succ.inj hl) h1 o1.rep (hv'.mono o1.view)) (fun _ s2 h => h.elim fun σ₂ h => ⟨σ₂, o1.trans h.1, h.2⟩)
theorem Ca.fnC {f : Addr} {fd : FuncData} {body : List Stmt} {ps : List Str} {pvs pvs' : List PV} {x1 x2 : Str} (B : Base c)
  (ho : FnAt c.P f fd) (hb : fd.body = .stmts body) (hk : fd.scope.kind = .function) (hco : fd.scope.isCoroutine = false) (hgen : fd.scope.isGenerator = false) (hclo : fd.closure = [])
  (hpush : ∀ h, pushCells h fd.scope.names = (h.push { cls := .type "cell", data := .cell none }).push { cls := .type "cell", data := .cell none }) (hcells : ∀ L, cellsFrom (L + 1) fd.scope.names [] = [(x2, L + 2), (x1, L + 1)])
  (hcd : codeIn (KK c.P) fd.code fd.qualname = true) (hd : c.d < recursionLimit) (ns : List Str)
  (hnames : (ns.all fun x => fd.scope.names.lookup x == some .local && !(x == ("__debug__" : Str))) = true) (hnd : ns.Nodup)
  (hbind : ∀ (s : Shared) (V : View) vals, Le c.β s.heap -> VRs V pvs vals -> ∃ vals', BindsTo s fd ⟨vals, []⟩ (ps.zip vals') /\ VRs V pvs' vals') (hlen : ps.length = pvs'.length)
  (h : ∀ L, Fm (callEnvC fd L f) L ns -> Base { c with d := c.d + 1, u := c.u + 3 } ->
   Stores { c with d := c.d + 1, u := c.u + 3 } (callEnvC fd L f) (ps.zip pvs') ((L, .loc ns (List.replicate ns.length none)) :: (L + 1, .that (CellIs none)) :: (L + 2, .that (CellIs none)) :: σ)
    (fun σ' => Xs { c with d := c.d + 1, u := c.u + 3 } (callEnvC fd L f) body σ' (fun σ' => fin Q .none σ') (fin Q))) :
  Ca c (.ref f) pvs σ Q := fun V vs hv => W.call fun A s hA R hV => by
 obtain ⟨vals', hbi, hv'⟩ := hbind s (vw c.F σ s) vs R.le (hv.mono hV)
 have X := B.In R.le
 refine codeAny_call_function (Nat.lt_of_le_of_lt hA.depth hd) (X _ _ ho) rfl hco hgen hb (codeRec_of X hcd) (hbi _ _ _ _ ?_)
 rw [hclo]
 simp only [newFunctionEnv, Option.isSome_none, Bool.false_eq_true, if_false]
 refine wb (wpAny_alloc ?_)
 refine wb (wpAny_layCells _ (fun name kind cells => by cases hkc : kind == NameKind.cell <;> simp [hkc]) _ _ _ _ ?_)
 rw [show ({ s with heap := s.heap.push { cls := .type "frame", data := .dict #[] } } : Shared).heap.objs.size = s.heap.objs.size + 1 from Heap.size_push ..]
 rw [hcells, hpush]
 have o1 := R.push_cell { cls := .type "frame", data := .dict #[] } (.loc ns (List.replicate ns.length none)) ⟨#[], 0, rfl, by intro e he; simp at he, fun i x p _ e => by
  have := List.mem_of_getElem? e
  rw [List.mem_replicate] at this
  cases this.2⟩
 have o2 := o1.rep.push_cell { cls := .type "cell", data := .cell none } (.that (CellIs none)) rfl
 have o3 := o2.rep.push_cell { cls := .type "cell", data := .cell none } (.that (CellIs none)) rfl
 generalize hL : s.heap.objs.size = L at o1 o2 o3 ⊢
 have e2 : (s.heap.push { cls := .type "frame", data := .dict #[] }).objs.size = L + 1 := by rw [Heap.size_push, hL]
 have e3 : ((s.heap.push { cls := .type "frame", data := .dict #[] }).push { cls := .type "cell", data := .cell none }).objs.size = L + 2 := by rw [Heap.size_push, e2]
 rw [e2] at o2
 rw [e3, e2] at o3
 have out := ((o1.trans o2).trans o3).perm_r (σ₂ := (L, .loc ns (List.replicate ns.length none)) :: (L + 1, .that (CellIs none)) :: (L + 2, .that (CellIs none)) :: σ) (by
  have h1 : ([(L, Cell.loc ns (List.replicate ns.length none)), (L + 1, .that (CellIs none)), (L + 2, .that (CellIs none))] : Store).Perm [(L + 2, .that (CellIs none)), (L + 1, .that (CellIs none)), (L, Cell.loc ns (List.replicate ns.length none))] := by
   have := List.reverse_perm ([(L + 2, .that (CellIs none)), (L + 1, .that (CellIs none)), (L, Cell.loc ns (List.replicate ns.length none))] : Store)
   exact this
  exact h1.append_right σ)
 have F : Fm (callEnvC fd L f) L ns := ⟨⟨hk, fun x hx => by
   have := List.all_eq_true.mp hnames x hx
   rw [Bool.and_eq_true] at this
   exact beq_iff_eq.mp this.1, hnd, fun x hx => by
   have := List.all_eq_true.mp hnames x hx
   rw [Bool.and_eq_true] at this
   simpa using this.2⟩, rfl⟩
 have B' := B.up (c.d + 1) (c.u + 3)
 have hA1 : AOk { c with d := c.d + 1, u := c.u + 3 } A.in1 := ⟨hA.handled, Nat.le_succ_of_le hA.depth, by show A.units + 1 <= c.u + 3; have := hA.units; lia⟩
 have henv : callEnvC fd L f = newEnv fd.scope L fd.globals [(x2, L + 2), (x1, L + 1)] (fd.qualname ++ ".<locals>.") (some f) fd.code none fd.builtins := by unfold callEnvC; rw [hcells]
 have st := h L F B'
 rw [henv] at st
 refine wb (wpAny_mono (stores_run hA1 (env := newEnv fd.scope L fd.globals [(x2, L + 2), (x1, L + 1)] (fd.qualname ++ ".<locals>.") (some f) fd.code none fd.builtins) (fun _ _ _ => rfl) ps pvs' vals' _ _ _ hlen st out.rep.up (hv'.mono out.view)) (fun _ s1 hq2 => ?_) fun _ _ e => e.elim)
 obtain ⟨σ1, o4, hx⟩ := hq2
 have o5 : Out c _ _ σ1 s1 := o4.down
 refine wq ⟨B.lim o5.rep.le, codeAny_func ?_⟩
 exact wpAny_mono (hx _ (A.deeper _) s1 ⟨hA.handled, Nat.succ_le_succ hA.depth, Nat.add_le_add_right hA.units 3⟩ o5.rep.up (.refl _)) (fun fl s' hq => fl_gives (out.trans o5) hq (fun e => by subst e; rfl) fun v e => by subst e; rfl) fun _ _ x => x.elim
end
theorem put_plain (t : SetTable) (j : Nat) : (t.put j).1.plain = t.plain := rfl
theorem layNew_plain {t : SetTable} {es : Array (Int × Value)} {h : Int} {x : Value} (hp : t.plain = false) : (layNew t es h x).2.1.plain = false := by
 unfold layNew
 split
 ·dsimp only
  unfold SetTable.orStandIn
  split
  ·rw [put_plain]; exact hp
  ·rfl
 ·rfl
set_option tactic.hygienic true in
theorem relayAll_plain {t : SetTable} {es : Array (Int × Value)} {w : Nat} (hp : t.plain = false) : (relayAll t es w).2.1.plain = false := by
 unfold relayAll
 split
 ·rename_i t' order he
  dsimp only
  split
  ·unfold SetTable.relaid SetTable.laid at he
   simp only [Option.bind_eq_bind, Option.bind_eq_some_iff, Option.pure_def, Option.some.injEq] at he
   obtain ⟨_, _, he⟩ := he
   have := (Prod.mk.inj he).1
   rw [<- this]
   exact hp
  ·rfl
 ·rfl
noncomputable def T1 (led : Bool) (j : Nat) : SetTable := { mask := 7, place := #[j], dummies := #[], finger := 0, led := led, moves := 0, plain := true }
theorem layNew_first (led : Bool) (h : Int) (x : Value) : ∃ j, layNew (.fresh 0 0 led) #[] h x = (#[(h, x)], T1 led j, false, false) := by
 refine ⟨((SetTable.fresh 0 0 led).probeStart h).j, ?_⟩
 have hfree : (SetTable.fresh 0 0 led).freeSlot h = some (((SetTable.fresh 0 0 led).probeStart h).j, false) := by
  unfold SetTable.freeSlot SetTable.probe
  have : 10 * SetTable.turns (SetTable.fresh 0 0 led).mask = 219 + 1 := rfl
  rw [this]
  rfl
 unfold layNew
 rw [hfree]
 rfl
inductive SE (w : World) : List Str -> List (Int × Value) -> Prop
 | nil : SE w [] []
 | cons {k : Str} {t : Tok} {ks : List Str} {es : List (Int × Value)} : SE w ks es -> SE w (k :: ks) ((hashStr w k, .str k t) :: es)
theorem SE.elems {prog : Program} {w : World} {ks : List Str} {es : List (Int × Value)} (h : SE w ks es) : ElemsOf (PySem.strKind prog w) es := by
 induction h with
 | nil => exact fun e he => nomatch he
 | cons h ih =>
  intro e he
  rcases List.mem_cons.mp he with rfl | he
  ·exact ⟨⟨_, strKind_is _ _ _ _, rfl⟩, rfl⟩
  ·exact ih e he
theorem SE.length {w : World} {ks : List Str} {es : List (Int × Value)} (h : SE w ks es) : es.length = ks.length :=
 h.rec (motive := fun ks es _ => es.length = ks.length) rfl fun _ e => congrArg (· + 1) e
theorem SE.perm {w : World} {es es' : List (Int × Value)} (p : es.Perm es') : ∀ {ks : List Str}, SE w ks es -> ∃ ks', ks'.Perm ks /\ SE w ks' es' := by
 induction p with
 | nil => intro ks h; exact ⟨ks, .refl _, h⟩
 | cons x p ih =>
  intro ks h
  cases h with
  | cons h =>
   obtain ⟨ks', p', h'⟩ := ih h
   exact ⟨_ :: ks', p'.cons _, .cons h'⟩
 | swap x y l =>
  intro ks h
  cases h with
  | cons h =>
   cases h with
   | cons h => exact ⟨_, .swap _ _ _, .cons (.cons h)⟩
 | trans _ _ ih1 ih2 =>
  intro ks h
  obtain ⟨k1, p1, h1⟩ := ih1 h
  obtain ⟨k2, p2, h2⟩ := ih2 h1
  exact ⟨k2, p2.trans p1, h2⟩
theorem SE.append {w : World} {k : Str} {t : Tok} {ks : List Str} {es : List (Int × Value)} (h : SE w ks es) : SE w (ks ++ [k]) (es ++ [(hashStr w k, .str k t)]) :=
 by induction h with | nil => exact .cons .nil | cons h ih => exact .cons ih
theorem SE.find {prog : Program} {w : World} {k : Str} {ks : List Str} {es : List (Int × Value)} (h : SE w ks es) (hn : (es.findIdx? fun e => (PySem.strKind prog w).is k e.2) = none) : k ∉ ks := by
 induction h with
 | nil => exact List.not_mem_nil
 | cons h ih =>
  rw [List.findIdx?_cons] at hn
  split at hn
  ·cases hn
  ·rename_i hne
   intro hm
   rcases List.mem_cons.mp hm with rfl | hm
   ·exact hne (strKind_is _ _ _ _)
   ·exact ih (Option.map_eq_none_iff.mp hn) hm
theorem SE.found {prog : Program} {w : World} {k : Str} {ks : List Str} {es : List (Int × Value)} (h : SE w ks es) {j : Nat} (hn : (es.findIdx? fun e => (PySem.strKind prog w).is k e.2) = some j) : k ∈ ks := by
 induction h generalizing j with
 | nil => cases hn
 | cons h ih =>
  rw [List.findIdx?_cons] at hn
  split at hn
  ·rename_i he
   exact List.mem_cons.mpr (.inl ((PySem.strKind prog w).inj _ _ _ he (strKind_is _ _ _ _)))
  ·obtain ⟨j', hj, _⟩ := Option.map_eq_some_iff.mp hn
   exact List.mem_cons_of_mem _ (ih hj)
noncomputable def SX (w : World) (L : List Str) (o : Obj) : Prop :=
 o.ExactSet /\ ∃ es ep t, o.data = .set es ep t /\ t.fits es.size = true /\ t.plain = false /\ (∃ ks, ks.Perm L /\ SE w ks es.toList) /\ (es.size = 1 -> ∃ led j, t = { T1 led j with plain := false } /\ (w.params.followText "set-order" = false -> led = true))
theorem sx_tail {prog : Program} {w : World} {A : Around} {E : Value -> Shared -> Prop} {s : Shared} {g : Bool -> Sem Unit} (hg : ∀ (b : Bool) (s1 : Shared) (Q' : Unit -> Shared -> Prop), Q' () s1 -> wpAny (model prog w) A (g b) Q' E s1)
  {a : Addr} {o : Obj} {es : Array (Int × Value)} {ep : Nat} {t : SetTable} (ho : s.heap.get? a = some o) (hd : o.data = .set es ep t)
  {es1 : Array (Int × Value)} {t2 : SetTable} (hb1 : es1.size < scanBound) (hf2 : t2.fits es1.size = true) {wasDummy : Bool} {R : Option Bool -> Shared -> Prop}
  (h : ∀ h' es2 ep2 t3, Heap.SameBut a s.heap h' -> h'.get? a = some { o with data := .set es2 ep2 t3 } -> es2.toList.Perm es1.toList -> t3.fits es2.size = true -> (t2.plain = false -> t3.plain = false) -> (t2.tooFull = false -> es2 = es1 /\ t3 = t2) -> R (some true) { s with heap := h' }) :
  wpAny (model prog w) A (do
    storeSet a es1 t2
    if (!wasDummy && t2.tooFull) = true then do
      g (relayAll t2 es1 (SetTable.grown es1.size)).2.2
      storeSet a (relayAll t2 es1 (SetTable.grown es1.size)).1 (relayAll t2 es1 (SetTable.grown es1.size)).2.1
      pure (some true)
     else pure (some true)) R E s := by
 refine wb (wpAny_storeSet_of ho hd ?_ (fits_of_scanBound hb1))
 have hg1 : (s.heap.update a (Obj.putSet es1 t2)).get? a = some { o with data := .set es1 (ep + 1) t2 } := by
  have := Heap.get?_update_self (Obj.putSet es1 t2) ho (by rw [putSet_of es1 t2 hd]; rfl)
  rw [putSet_of es1 t2 hd] at this; exact this
 have hsb1 := Heap.SameBut.update s.heap a (Obj.putSet es1 t2)
 split
 ·rename_i hfull
  have hp := relayAll_perm t2 es1 (SetTable.grown es1.size)
  have hfr := relayAll_fits t2 es1 (SetTable.grown es1.size)
  have hpl := @relayAll_plain t2 es1 (SetTable.grown es1.size)
  generalize hRl : relayAll t2 es1 (SetTable.grown es1.size) = Rl at hp hfr hpl ⊢
  obtain ⟨es2, t3, gave2⟩ := Rl
  dsimp only at hp hfr hpl ⊢
  have hsz : es2.size = es1.size := by rw [<- Array.length_toList, hp.length_eq, Array.length_toList]
  have hb2 : es2.size < scanBound := by rw [hsz]; exact hb1
  refine wb (hg _ _ _ ?_)
  refine wb (wpAny_storeSet_of hg1 rfl ?_ (fits_of_scanBound hb2))
  have hg2 : ((s.heap.update a (Obj.putSet es1 t2)).update a (Obj.putSet es2 t3)).get? a = some { o with data := .set es2 (ep + 1 + 1) t3 } := by
   have := Heap.get?_update_self (Obj.putSet es2 t3) hg1 (by rw [putSet_of es2 t3 rfl]; rfl)
   rw [putSet_of es2 t3 rfl] at this; exact this
  refine wq (h _ es2 _ t3 (hsb1.trans (Heap.SameBut.update _ a _)) hg2 hp hfr hpl fun hn => ?_)
  rw [hn, Bool.and_false] at hfull
  cases hfull
 ·exact wq (h _ es1 _ t2 hsb1 hg1 (.refl _) hf2 id fun _ => ⟨rfl, rfl⟩)
section
variable {prog : Program} {w : World} {A : Around} {E : Value -> Shared -> Prop} {s : Shared}
theorem sx_add_core {a : Addr} {o : Obj} {es : Array (Int × Value)} {ep : Nat} {t : SetTable} {ks : List Str} {k : Str} {tk : Tok} {Q : Bool -> Shared -> Prop} (ho : s.heap.get? a = some o) (hd : o.data = .set es ep t) (hf : t.fits es.size = true) (hks : SE w ks es.toList) (hroom : es.size + 1 < scanBound)
  (h1 : k ∈ ks -> Q false s)
  (h2 : k ∉ ks -> ∀ h' es2 ep2 t3, Heap.SameBut a s.heap h' -> h'.get? a = some { o with data := .set es2 ep2 t3 } -> es2.toList.Perm (es.toList ++ [(hashStr w k, .str k tk)]) -> t3.fits es2.size = true -> t3.plain = false ->
   (es.size = 0 -> ∀ led, t = .fresh 0 0 led -> ∃ j, t3 = { T1 led j with plain := false }) -> Q true { s with heap := h' }) :
  wpAny (model prog w) A (setAddHashed a (.str k tk) (hashStr w k)) Q E s := by
 have hkey : (PySem.strKind prog w).is k (.str k tk) = true := strKind_is _ _ _ _
 have hsc : (Value.str k tk).scannable = true := rfl
 have hel := hks.elems (prog := prog)
 have hb : es.size < scanBound := by lia
 unfold setAddHashed setAddHashedIn
 refine wpAny_holding (wb (wpAny_setState_of ho hd hf ?_))
 dsimp only
 rw [byScan_of hsc hb hel]
 simp only [↓reduceIte]
 unfold setAddByScan
 refine wb ?_
 refine wb (wpAny_rule ?_)
 refine wb (wpAny_setScan_of hkey ho hd hf hel ?_)
 cases hr : List.findIdx? (fun e => (PySem.strKind prog w).is k e.2) es.toList with
 | some j =>
  dsimp only
  exact wq (wq (h1 (hks.found hr)))
 | none =>
  dsimp only
  have hk := hks.find hr
  have hgw : ∀ (b : Bool) {s1 : Shared} {Q' : Unit -> Shared -> Prop}, Q' () s1 -> wpAny (model prog w) A (match b with | true => rule "set.scan.the-table-gave-way" | false => pure ()) Q' E s1 :=
   fun b s1 Q' hq => by cases b <;> first | exact wq hq | exact wpAny_rule hq
  have hperm := layNew_perm t es (hashStr w k) (.str k tk)
  have hfits := layNew_fits t es (hashStr w k) (.str k tk)
  have hplain := @layNew_plain t es (hashStr w k) (.str k tk)
  have hfirst : es.size = 0 -> ∀ led, t = .fresh 0 0 led -> ∃ j, (layNew t es (hashStr w k) (.str k tk)).2.1 = T1 led j := fun e0 led et => by
   have e : es = #[] := Array.eq_empty_of_size_eq_zero e0
   subst e et
   obtain ⟨j, hj⟩ := layNew_first led (hashStr w k) (.str k tk)
   exact ⟨j, by rw [hj]⟩
  show wpAny (model prog w) A (do
   (match (layNew t es (hashStr w k) (.str k tk)).2.2.2 with | true => rule "set.scan.the-table-gave-way" | false => pure ())
   _) _ E s
  generalize hL : layNew t es (hashStr w k) (.str k tk) = Lx at hperm hfits hplain hfirst ⊢
  obtain ⟨es1, t1, wasDummy, gave⟩ := Lx
  dsimp only at hperm hfits hplain hfirst ⊢
  rw [Array.toList_push] at hperm
  have hsz1 : es1.size = es.size + 1 := by rw [<- Array.length_toList, hperm.length_eq, List.length_append, Array.length_toList]; rfl
  have hb1 : es1.size < scanBound := by rw [hsz1]; exact hroom
  refine wb (hgw _ ?_)
  have fin : ∀ t2 : SetTable, t2 = { t1 with plain := false } -> ∀ h' es2 ep2 t3, Heap.SameBut a s.heap h' -> h'.get? a = some { o with data := .set es2 ep2 t3 } -> es2.toList.Perm es1.toList -> t3.fits es2.size = true -> (t2.plain = false -> t3.plain = false) -> (t2.tooFull = false -> es2 = es1 /\ t3 = t2) -> Q true { s with heap := h' } :=
   fun t2 et h' es2 ep2 t3 hsb hg hp hf3 hp3 hnf => h2 hk h' es2 ep2 t3 hsb hg (hp.trans hperm) hf3 (hp3 (by rw [et])) fun e0 led etl => by
    obtain ⟨j, hj⟩ := hfirst e0 led etl
    have e1 : t1 = T1 led j := hj
    refine ⟨j, ?_⟩
    rw [(hnf (by rw [et, e1]; rfl)).2, et, e1]
  split
  ·refine wb ?_
   rw [hashByValue_scannable 8 hsc]
   refine wq ?_
   refine sx_tail ?_ ho hd hb1 ?_ ?_
   ·intro b s1 Q' hq; cases b <;> first | exact wq hq | exact wpAny_rule hq
   ·split
    ·exact hfits
    ·exact SetTable.fits_plain_off hfits
   ·intro h' es2 ep2 t3 a1 a2 a3 a4 a5 a6
    dsimp only
    exact wq (fin _ rfl h' es2 ep2 t3 a1 a2 a3 a4 a5 a6)
  ·rename_i hpl
   refine wb (wq ?_)
   simp only [↓reduceIte]
   refine sx_tail ?_ ho hd hb1 hfits ?_
   ·intro b s1 Q' hq; cases b <;> first | exact wq hq | exact wpAny_rule hq
   ·intro h' es2 ep2 t3 a1 a2 a3 a4 a5 a6
    dsimp only
    refine wq (fin _ ?_ h' es2 ep2 t3 a1 a2 a3 a4 a5 a6)
    have : t1.plain = false := by simpa using hpl
    cases t1
    simp at this
    simp [this]
end
noncomputable def kfits {α : Type} (n : Nat) (r : Nat -> Nat -> Bool -> Prop) (P : α -> Prop) : KasT α -> Prop
 | .ret a => P a
 | .ask i j k => i < n /\ j < n /\ i ≠ j /\ ∀ b, r i j b -> kfits n r P (k b)
noncomputable def kidx {α : Type} (n : Nat) (P : α -> Bool) : KasT α -> Bool
 | .ret a => P a
 | .ask i j k => decide (i < n) && decide (j < n) && decide (i ≠ j) && kidx n P (k true) && kidx n P (k false)
noncomputable def kev {α : Type} (f : Nat -> Nat -> Bool) : KasT α -> α
 | .ret a => a
 | .ask i j k => kev f (k (f i j))
theorem kidx_ask {α : Type} {n i j : Nat} {P : α -> Bool} {k : Bool -> KasT α} (h : kidx n P (.ask i j k) = true) : (i < n /\ j < n /\ i ≠ j) /\ ∀ b, kidx n P (k b) = true := by
 have h : (decide (i < n) && decide (j < n) && decide (i ≠ j) && kidx n P (k true) && kidx n P (k false)) = true := h
 simp only [Bool.and_eq_true, decide_eq_true_eq] at h
 exact ⟨⟨h.1.1.1.1, h.1.1.1.2, h.1.1.2⟩, fun b => by cases b; exact h.2; exact h.1.2⟩
theorem kidx_fits {α : Type} {n : Nat} {P : α -> Bool} (t : KasT α) (h : kidx n P t = true) : kfits n (fun _ _ _ => True) (fun a => P a = true) t := by
 induction t with
 | ret a => exact h
 | ask i j k ih => exact ⟨(kidx_ask h).1.1, (kidx_ask h).1.2.1, (kidx_ask h).1.2.2, fun b _ => ih b ((kidx_ask h).2 b)⟩
theorem kidx_ev {α : Type} {n : Nat} {P : α -> Bool} {f : Nat -> Nat -> Bool} (t : KasT α) (h : kidx n P t = true) : kfits n (fun i j b => b = f i j) (fun a => a = kev f t /\ P a = true) t := by
 induction t with
 | ret a => exact ⟨rfl, h⟩
 | ask i j k ih =>
  refine ⟨(kidx_ask h).1.1, (kidx_ask h).1.2.1, (kidx_ask h).1.2.2, fun b hb => ?_⟩
  subst hb
  exact ih _ ((kidx_ask h).2 _)
theorem kfits_wp {α : Type} {n : Nat} {r : Nat -> Nat -> Bool -> Prop} {P : α -> Prop} {cmp : Nat -> Nat -> (Bool -> Shared -> Prop) -> Shared -> Prop} {I : Shared -> Prop} {G : α -> Shared -> Prop}
  (hc : ∀ i j C s, i < n -> j < n -> i ≠ j -> I s -> (∀ b s', r i j b -> I s' -> C b s') -> cmp i j C s) (hG : ∀ a s', P a -> I s' -> G a s') (t : KasT α) : ∀ s, kfits n r P t -> I s -> t.kasWp cmp G s := by
 induction t with
 | ret a => exact fun s h hI => hG a s h hI
 | ask i j k ih => exact fun s h hI => hc i j _ s h.1 h.2.1 h.2.2.1 hI fun b s' hb hI' => ih b s' (h.2.2.2 b hb) hI'
noncomputable def isP (n : Nat) (p : Array Nat) : Bool := p.toList.isPerm (List.range n)
theorem ki2 : kidx 2 (isP 2) (kas_sort 2) = true := by decide +kernel
theorem ki3 : kidx 3 (isP 3) (kas_sort 3) = true := by decide +kernel
theorem ki4 : kidx 4 (isP 4) (kas_sort 4) = true := by decide +kernel
theorem ki {n : Nat} (h2 : 2 <= n) (h4 : n <= 4) : kidx n (isP n) (kas_sort n) = true := by
 have : n = 2 \/ n = 3 \/ n = 4 := by lia
 rcases this with rfl | rfl | rfl
 ·exact ki2
 ·exact ki3
 ·exact ki4
theorem isP_perm {n : Nat} {p : Array Nat} (h : isP n p = true) : p.toList.Perm (List.range n) := List.isPerm_iff.mp h
noncomputable def pick {α : Type} (l : List α) (p : List Nat) : List α := p.filterMap (l[·]?)
theorem pick_range {α : Type} (l : List α) : pick l (List.range l.length) = l := by
 unfold pick
 induction l with
 | nil => rfl
 | cons a l ih =>
  rw [List.length_cons, List.range_succ_eq_map, List.filterMap_cons]
  simp only [List.getElem?_cons_zero, List.filterMap_map, Function.comp_def, List.getElem?_cons_succ]
  rw [ih]
theorem pick_perm {α : Type} {l : List α} {p : List Nat} (h : p.Perm (List.range l.length)) : (pick l p).Perm l := by
 have := h.filterMap (fun i => l[i]?)
 rwa [show List.filterMap (fun i => l[i]?) (List.range l.length) = l from pick_range l] at this
theorem pick_getD {vs : List Value} {p : List Nat} (h : ∀ i ∈ p, i < vs.length) : p.map (fun i => vs.getD i Value.none) = pick vs p := by
 induction p with
 | nil => rfl
 | cons i p ih =>
  have hi := h i (.head _)
  unfold pick
  rw [List.map_cons, List.filterMap_cons, List.getElem?_eq_getElem hi]
  have := ih fun j hj => h j (.tail _ hj)
  unfold pick at this
  rw [this]
  simp [hi]
theorem pick_vrs {V : View} {ps : List PV} {vs : List Value} (h : VRs V ps vs) (p : List Nat) : VRs V (pick ps p) (pick vs p) := by
 unfold pick
 induction p with
 | nil => exact .nil
 | cons i p ih =>
  rw [List.filterMap_cons, List.filterMap_cons]
  by_cases hi : i < ps.length
  ·have e : ps[i]? = some ps[i] := List.getElem?_eq_getElem hi
   obtain ⟨v, ev, rv⟩ := h.get e
   rw [e, ev]
   exact .cons rv ih
  ·rw [List.getElem?_eq_none (Nat.le_of_not_lt hi), List.getElem?_eq_none (by rw [h.length]; exact Nat.le_of_not_lt hi)]
   exact ih
section
variable {c : Cx} {σ σ' τ : Store} {s : Shared}
noncomputable def KKd (c : Cx) (κ : SortKind) (ps : List PV) : Prop := ∀ A σ s vs, Rep c σ s -> VRs (vw c.F σ s) ps vs -> wpAny c.M A (keyKind' vs.toArray) (fun κ' s' => κ' = κ /\ s' = s) (fun _ _ => False) s
noncomputable def KLt (c : Cx) (κ : SortKind) (p q : PV) (r : Bool -> Prop) : Prop := ∀ A σ s v w, A.handled = none -> A.units < 9000 -> Rep c σ s -> VR (vw c.F σ s) p v -> VR (vw c.F σ s) q w -> wpAny c.M A (keyLt' κ v w) (fun b s' => r b /\ Out c σ s σ s') (fun _ _ => False) s
noncomputable def Srt (n : Nat) (r : Nat -> Nat -> Bool -> Prop) (P : List Nat -> Prop) : Prop := if n < 2 then P (List.range n) else kfits n r (fun p => P p.toList) (kas_sort n)
theorem kfits_mono {n : Nat} {r : Nat -> Nat -> Bool -> Prop} {α : Type} {P P' : α -> Prop} (k : ∀ a, P a -> P' a) (t : KasT α) : kfits n r P t -> kfits n r P' t := by
 induction t with
 | ret a => exact k a
 | ask i j q ih => exact fun h => ⟨h.1, h.2.1, h.2.2.1, fun b hb => ih b (h.2.2.2 b hb)⟩
theorem Srt.mono {n : Nat} {r : Nat -> Nat -> Bool -> Prop} {P P' : List Nat -> Prop} (h : Srt n r P) (k : ∀ p, P p -> P' p) : Srt n r P' := by
 unfold Srt at h ⊢
 split at h
 ·rename_i h2; rw [if_pos h2]; exact k _ h
 ·rename_i h2; rw [if_neg h2]
  exact kfits_mono (fun p => k _) _ h
theorem Srt.free {n : Nat} (h4 : n <= 4) : Srt n (fun _ _ _ => True) (fun p => p.Perm (List.range n)) := by
 unfold Srt
 split
 ·exact .refl _
 ·rename_i h2
  have := kidx_fits _ (ki (by lia) h4)
  exact kfits_mono (fun p => isP_perm) _ this
noncomputable def srtP (n : Nat) (f : Nat -> Nat -> Bool) : List Nat := if n < 2 then List.range n else (kev f (kas_sort n)).toList
theorem Srt.ev {n : Nat} (h4 : n <= 4) (f : Nat -> Nat -> Bool) : Srt n (fun i j b => b = f i j) (fun p => p = srtP n f /\ p.Perm (List.range n)) := by
 unfold Srt srtP
 split
 ·exact ⟨rfl, .refl _⟩
 ·rename_i h2
  have := kidx_ev (f := f) _ (ki (by lia) h4)
  exact kfits_mono (fun p h => ⟨by rw [h.1], isP_perm h.2⟩) _ this
theorem Up.at {a : Addr} {x x' : Cell} {pre post : Store} : Up a x x' (pre ++ (a, x) :: post) (pre ++ (a, x') :: post) := Up.append pre .head
theorem range_lt {n i : Nat} {p : List Nat} (h : p.Perm (List.range n)) (hi : i ∈ p) : i < n := List.mem_range.mp (h.mem_iff.mp hi)
theorem getD_some {vs : List Value} {i : Nat} {v : Value} (h : vs[i]? = some v) : vs.getD i Value.none = v := by rw [List.getD_eq_getElem?_getD, h]; rfl
theorem sort_core {A : Around} {σ : Store} {kp : List PV} {ks vs : List Value} {κ : SortKind} {r : Nat -> Nat -> Bool -> Prop} {P : List Nat -> Prop} {E : Value -> Shared -> Prop} {γ : Type} {K : Unit × SortSt -> Sem γ} {Q : γ -> Shared -> Prop} (hA : A.handled = none) (hu : A.units < 9000) (R : Rep c σ s)
  (hk : VRs (vw c.F σ s) kp ks) (hl : ks.length = vs.length) (h4 : vs.length <= 4) (hkd : 2 <= kp.length -> KKd c κ kp) (hc : ∀ i j p q, kp[i]? = some p -> kp[j]? = some q -> i ≠ j -> KLt c κ p q (r i j))
  (hS : Srt vs.length r (fun p => P p /\ p.Perm (List.range vs.length)))
  (hQ : ∀ st s' p, P p -> p.Perm (List.range vs.length) -> (arrOf st).map (·.2) = (pick vs p).toArray -> failedOf st = none -> Out c σ s σ s' -> wpAny c.M A (K ((), st)) Q E s') :
  wpAny c.M A (if vs.toArray.size < 2 then (do
   let kind <- pure general'
   let x <- (if vs.toArray.size < 2 then pure () else sortRuns').run (SortSt.mk' kind (ks.toArray.zip vs.toArray) #[] 7 none)
   K x)
   else do
   let kind <- keyKind' ks.toArray
   let x <- (if vs.toArray.size < 2 then pure () else sortRuns').run (SortSt.mk' kind (ks.toArray.zip vs.toArray) #[] 7 none)
   K x) Q E s := by
 have hkl := hk.length
 unfold Srt at hS
 by_cases h2 : vs.length < 2
 ·rw [if_pos h2] at hS
  rw [if_pos (by rw [List.size_toArray]; exact h2), if_pos (by rw [List.size_toArray]; exact h2)]
  refine wb (wq ?_)
  rw [StateT.run_pure]
  refine wb (wq (hQ _ _ _ hS.1 hS.2 ?_ rfl (.refl R)))
  rw [pick_range]
  show (ks.toArray.zip vs.toArray).map (·.2) = vs.toArray
  apply Array.toList_inj.mp
  rw [Array.toList_map, ksk_zip]
  show (ks.zip vs).map Prod.snd = vs
  exact List.map_snd_zip (by lia)
 ·rw [if_neg h2] at hS
  rw [if_neg (by rw [List.size_toArray]; exact h2), if_neg (by rw [List.size_toArray]; exact h2)]
  refine wb (wpAny_mono (hkd (by lia) A σ s ks R hk) (fun κ' s1 hq2 => ?_) fun _ _ e => e.elim)
  obtain ⟨e1, e2⟩ := hq2
  subst e1 e2
  refine wb (wm (kat_run (Q := fun st s' => wpAny c.M A (K ((), st)) Q E s') (E := E) hl (by lia) (by lia) (G := fun p s' => (P p.toList /\ p.toList.Perm (List.range vs.length)) /\ Out c σ s1 σ s') (fun p st' s' hp har hf ⟨⟨h1, h3⟩, o⟩ => ?_) ?_) (fun r s' h => h))
  ·refine hQ st' s' _ h1 h3 ?_ hf o
   rw [kat_snds hl har]
   rw [pick_getD fun i hi => range_lt h3 hi]
  ·refine kfits_wp (I := fun s' => Out c σ s1 σ s') (fun i j C s' hi hj hij o hC => ?_) (fun p s' hp o => ⟨hp, o⟩) _ _ hS (.refl R)
   have hi' : i < kp.length := by lia
   have hj' : j < kp.length := by lia
   obtain ⟨v, ev, rv⟩ := hk.get (List.getElem?_eq_getElem hi')
   obtain ⟨u, eu, ru⟩ := hk.get (List.getElem?_eq_getElem hj')
   unfold kas_ask
   rw [getD_some ev, getD_some eu]
   exact wm (hc i j _ _ (List.getElem?_eq_getElem hi') (List.getElem?_eq_getElem hj') hij A σ s' v u hA hu o.rep (rv.mono o.view) (ru.mono o.view)) (fun b s'' ⟨hb, o'⟩ => hC b s'' hb (o.trans o'))
theorem sort_list {A : Around} {a : Addr} {pre post : Store} {ps : List PV} {κ : SortKind} {r : Nat -> Nat -> Bool -> Prop} {P : List Nat -> Prop} (hA : A.handled = none) (hu : A.units < 9000) (R : Rep c (pre ++ (a, .list ps) :: post) s)
  (hz : ps.length <= 4) (hk : 2 <= ps.length -> KKd c κ ps) (hc : ∀ i j p q, ps[i]? = some p -> ps[j]? = some q -> i ≠ j -> KLt c κ p q (r i j))
  (hS : Srt ps.length r (fun p => P p /\ p.Perm (List.range ps.length))) :
  wpAny c.M A (Builtin.«list.sort» ⟨[.ref a], []⟩) (fun fi s' => fi = .done (.ret .none) /\ ∃ p, P p /\ p.Perm (List.range ps.length) /\ Out c (pre ++ (a, .list ps) :: post) s (pre ++ (a, .list (pick ps p)) :: post) s') (fun _ _ => False) s := by
 obtain ⟨o, ho, vs, n, rfl, rvs⟩ := R.cells (a, .list ps) (memR _ (.head _))
 have hl := rvs.length
 have h1 : vs.length <= sizeLine := by rw [sizeLine_eq]; lia
 have s1 := Heap.SameBut.update s.heap a (Obj.mapSeq fun _ => (#[] : Array Value))
 obtain ⟨e1, ho1⟩ : ∃ e1, (s.heap.update a (Obj.mapSeq fun _ => (#[] : Array Value))).get? a = some (seqObj "list" #[] e1) := ⟨_, get?_update_seq ho fun _ => #[]⟩
 have o1 := R.upd (x' := .obj (seqObj "list" #[] e1)) Up.at s1 ho1 rfl s.toks (Nat.le_refl _)
 rw [list_sort_plain]
 refine wb (listItems_at ho rfl ?_)
 refine wb (listUpdate_at ho rfl ?_ (by rw [List.size_toArray]; exact h1) (Nat.zero_le _))
 refine wb (seqEpoch_at ho1 rfl ?_)
 have o2 := (o1.rep.push_frz (seqObj "tuple" vs.toArray 0)).1
 have o3 := (o2.rep.push_frz (seqObj "list" #[] 0)).1
 have o := (o1.trans o2).trans o3
 refine wb (wpAny_newTuple ?_ (by exact h1))
 refine wb (wpAny_newList ?_ (Nat.zero_le _))
 refine wpAny_holding ?_
 dsimp only
 dsimp only at o
 generalize hs3 : ({ s with heap := ((s.heap.update a (Obj.mapSeq fun _ => (#[] : Array Value))).push (seqObj "tuple" vs.toArray 0)).push (seqObj "list" #[] 0) } : Shared) = s3
 have o' : Out c (pre ++ (a, .list ps) :: post) s (pre ++ (a, .obj (seqObj "list" #[] e1)) :: post) s3 := by rw [<- hs3]; exact o
 refine sort_core hA hu o'.rep (rvs.mono o'.view) rfl (by lia) hk hc (by rw [hl]; exact hS) fun st s' p a1 a2 hout hf o4 => ?_
 have hsz : (pick vs p).length = vs.length := (pick_perm a2).length_eq
 have ov := o'.trans o4
 have rv2 : VRs (vw c.F (pre ++ (a, .obj (seqObj "list" #[] e1)) :: post) s') (pick ps p) (pick vs p) := pick_vrs (rvs.mono ov.view) p
 obtain ⟨oz, hz1, rfl⟩ := o4.rep.cells (a, .obj (seqObj "list" #[] e1)) (memR _ (.head _))
 have s2 := Heap.SameBut.update s'.heap a (Obj.mapSeq fun _ => (pick vs p).toArray)
 have hc2 := get?_update_seq hz1 fun _ => (pick vs p).toArray
 have o5 := o4.rep.upd (x' := .list (pick ps p)) Up.at s2 hc2 ⟨_, _, rfl, rv2⟩ s'.toks (Nat.le_refl _)
 dsimp only
 rw [hout, hf]
 refine wb (seqEpoch_at hz1 rfl ?_)
 refine wb (listUpdate_at hz1 rfl ?_ (Nat.zero_le _) (by rw [List.size_toArray, hsz]; lia))
 simp only [bne_self_eq_false, Bool.false_eq_true, if_false]
 exact wq ⟨rfl, p, a1, by rw [<- hl]; exact a2, ov.trans o5⟩
theorem Out.drop_head {s' : Shared} {p : Addr × Cell} (o : Out c σ s (p :: σ') s') : Out c σ s σ' s' :=
 o.trans (Out.sub o.rep (fun q hq => .tail _ hq) (by have := o.rep.nodup; rw [addrs, List.map_cons] at this; exact (List.nodup_cons.mp this).2))
theorem sort_keyed {A : Around} {a : Addr} {f : Value} {pre post : Store} {ps : List PV} {key : PV -> PV} {κ : SortKind} {r : Nat -> Nat -> Bool -> Prop} {P : List Nat -> Prop} (hA : AOk c A) (hu : A.units < 9000) (R : Rep c (pre ++ (a, .list ps) :: post) s)
  (hz : ps.length <= 4) (hkey : ∀ σ' p, p ∈ ps -> (∀ x ∈ pre ++ post, x ∈ σ') -> Ca c f [p] σ' (fun q σ'' => q = key p /\ σ'' = σ'))
  (hk : 2 <= ps.length -> KKd c κ (ps.map key)) (hc : ∀ i j p q, (ps.map key)[i]? = some p -> (ps.map key)[j]? = some q -> i ≠ j -> KLt c κ p q (r i j))
  (hS : Srt ps.length r (fun p => P p /\ p.Perm (List.range ps.length))) :
  wpAny c.M A (ksk_tree a f false) (fun fi s' => fi = .done (.ret .none) /\ ∃ p, P p /\ p.Perm (List.range ps.length) /\ Out c (pre ++ (a, .list ps) :: post) s (pre ++ (a, .list (pick ps p)) :: post) s') (fun _ _ => False) s := by
 obtain ⟨o, ho, vs, n, rfl, rvs⟩ := R.cells (a, .list ps) (memR _ (.head _))
 have hl := rvs.length
 have h1 : vs.length <= sizeLine := by rw [sizeLine_eq]; lia
 have s1 := Heap.SameBut.update s.heap a (Obj.mapSeq fun _ => (#[] : Array Value))
 obtain ⟨e1, ho1⟩ : ∃ e1, (s.heap.update a (Obj.mapSeq fun _ => (#[] : Array Value))).get? a = some (seqObj "list" #[] e1) := ⟨_, get?_update_seq ho fun _ => #[]⟩
 have o1 := R.upd (x' := .obj (seqObj "list" #[] e1)) Up.at s1 ho1 rfl s.toks (Nat.le_refl _)
 unfold ksk_tree
 refine wb (listItems_at ho rfl ?_)
 refine wb (listUpdate_at ho rfl ?_ (by rw [List.size_toArray]; exact h1) (Nat.zero_le _))
 refine wb (seqEpoch_at ho1 rfl ?_)
 have o2 := (o1.rep.push_frz (seqObj "tuple" vs.toArray 0)).1
 have o3 := o2.rep.push_cell (seqObj "list" #[] 0) (.list []) ⟨[], 0, rfl, .nil⟩
 have o := (o1.trans o2).trans o3
 refine wb (wpAny_newTuple ?_ (by exact h1))
 refine wb (wpAny_newList ?_ (Nat.zero_le _))
 refine wpAny_holding ?_
 dsimp only
 dsimp only at o
 generalize hkS : ((s.heap.update a (Obj.mapSeq fun _ => (#[] : Array Value))).push (seqObj "tuple" vs.toArray 0)).objs.size = kS at o ⊢
 generalize hs3 : ({ s with heap := ((s.heap.update a (Obj.mapSeq fun _ => (#[] : Array Value))).push (seqObj "tuple" vs.toArray 0)).push (seqObj "list" #[] 0) } : Shared) = s3 at o ⊢
 unfold ksk_rest
 refine wb (wpAny_rule ?_)
 first
  | rw [List.forIn_toArray]
  | (rw [<- Array.forIn_toList]; simp only [List.toList_toArray])
  | rw [<- Array.forIn_toList]
 refine wb (ksk_fold (fun i s' => Out c (pre ++ (a, .list ps) :: post) s ((kS, .list ((ps.take i).map key)) :: (pre ++ (a, .obj (seqObj "list" #[] e1)) :: post)) s') vs 0 s3 ?init ?step ?done)
 case init => simpa using o
 case step =>
  intro j x s' hx o'
  simp only [Nat.zero_add] at o' ⊢
  have hj : j < ps.length := by rw [<- hl]; exact (List.getElem?_eq_some_iff.mp hx).1
  obtain ⟨x', ex, rx⟩ := (rvs.mono o'.view).get (List.getElem?_eq_getElem hj)
  obtain rfl : x' = x := Option.some.inj (ex.symm.trans hx)
  have hq := hkey ((kS, .list ((ps.take j).map key)) :: (pre ++ (a, .obj (seqObj "list" #[] e1)) :: post)) ps[j] (List.getElem_mem hj) (fun z hz => .tail _ (by
   rcases List.mem_append.mp hz with h | h
   ·exact memL _ h
   ·exact memR _ (.tail _ h)))
  refine wb (wpAny_attempt (W.onr (hq _ [x'] (.cons rx .nil)) hA o'.rep (.refl _) (fun v s₂ σ₂ o2 q rq hq1 => ?_)))
  obtain ⟨e1', e2'⟩ := hq1
  subst e1' e2'
  obtain ⟨ob, hob, kvs, m, rfl, rkv⟩ := o2.rep.cells _ (.head _)
  have e2 := IsL.update (h := s₂.heap) hob (fun z => z.push v)
  rw [show kvs.toArray.push v = (kvs ++ [v]).toArray by simp] at e2
  have hkl : kvs.length <= 4 := by rw [rkv.length, lnM, List.length_take]; lia
  have ht : (ps.take (j + 1)).map key = (ps.take j).map key ++ [key ps[j]] := by rw [List.take_add_one, List.getElem?_eq_getElem hj, List.map_append]; rfl
  have out := o2.rep.upd (x' := .list ((ps.take (j + 1)).map key)) .head (Heap.SameBut.update s₂.heap kS (Obj.mapSeq fun z => z.push v)) e2 ⟨kvs ++ [v], _, rfl, by rw [ht]; exact rkv.append (.cons rq .nil)⟩ s₂.toks (Nat.le_refl _)
  dsimp only
  refine wb (listUpdate_at hob rfl ?_ (by rw [List.size_toArray, sizeLine_eq]; lia) (Nat.le_trans (Nat.le_of_eq (Array.size_push ..)) (by rw [List.size_toArray, sizeLine_eq]; lia)))
  exact wq ⟨rfl, (o'.trans o2).trans out⟩
 case done =>
  intro s' o'
  rw [show (ps.take (0 + vs.length)) = ps from List.take_of_length_le (by lia)] at o'
  obtain ⟨ob, hob, ks, m, rfl, rks⟩ := o'.rep.cells _ (.head _)
  have hkl := rks.length
  rw [lnM] at hkl
  try dsimp only
  refine wb (listItems_at hob rfl ?_)
  unfold ksk_end
  try dsimp only
  simp only [Bool.false_eq_true, if_false]
  refine sort_core (kp := ps.map key) hA.handled hu o'.rep rks (by lia) (by lia) (fun h => hk (by rw [lnM] at h; exact h)) hc (by rw [hl]; exact hS) fun st s₂ p a1 a2 hout hf o4 => ?_
  have hsz : (pick vs p).length = vs.length := (pick_perm a2).length_eq
  have ov := o'.trans o4
  have rv2 := pick_vrs (rvs.mono ov.view) p
  unfold ksk_tail
  try dsimp only
  rw [hout, hf]
  obtain ⟨ok, hok, ks', m', rfl, rks'⟩ := o4.rep.cells _ (.head _)
  have hkl' := rks'.length
  rw [lnM] at hkl'
  have e2 := IsL.update (h := s₂.heap) hok (fun _ => #[])
  have out := o4.rep.upd (x' := .list []) .head (Heap.SameBut.update s₂.heap kS (Obj.mapSeq fun _ => #[])) e2 ⟨[], _, rfl, .nil⟩ s₂.toks (Nat.le_refl _)
  refine wb (listUpdate_at hok rfl ?_ (by rw [List.size_toArray, sizeLine_eq]; lia) (Nat.zero_le _))
  refine wb (wpAny_letGo ?_)
  obtain ⟨oz, hz1, rfl⟩ := out.rep.cells (a, .obj (seqObj "list" #[] e1)) (.tail _ (memR _ (.head _)))
  refine wb (seqEpoch_at hz1 rfl ?_)
  have s2 := Heap.SameBut.update (s₂.heap.update kS (Obj.mapSeq fun _ => #[])) a (Obj.mapSeq fun _ => (pick vs p).toArray)
  have hc2 := get?_update_seq hz1 fun _ => (pick vs p).toArray
  have o5 := out.rep.upd (x' := .list (pick ps p)) (.tail Up.at) s2 hc2 ⟨_, _, rfl, rv2.mono out.view⟩ s₂.toks (Nat.le_refl _)
  refine wb (listUpdate_at hz1 rfl ?_ (Nat.zero_le _) (by rw [if_neg (by simp), List.size_toArray, hsz]; lia))
  simp only [bne_self_eq_false, Bool.false_eq_true, if_false]
  exact wq ⟨rfl, p, a1, by rw [<- hl]; exact a2, ((ov.trans out).trans o5).drop_head⟩
end
theorem VRs.allStr {V : View} {xs : List Str} : ∀ {vs : List Value}, VRs V (xs.map .str) vs -> ∀ v ∈ vs, ∃ x t, v = .str x t := by
 induction xs with
 | nil => intro vs h v hv; rw [h.inv_nil] at hv; cases hv
 | cons x xs ih =>
  intro vs h
  obtain ⟨w, ws, rfl, r, h'⟩ := h.inv_cons
  obtain ⟨t, rfl⟩ := r.inv_str
  exact List.forall_mem_cons.mpr ⟨⟨_, _, rfl⟩, ih h'⟩
section
variable {c : Cx} {σ σ' τ : Store} {s : Shared}
theorem VR.tup_at {p : PV} {ps : List PV} {v : Value} (h : VR (vw c.F σ s) (.tup ps) v) : ∃ a vs n, v = .ref a /\ s.heap.get? a = some (seqObj "tuple" vs.toArray n) /\ VRs (vw c.F σ s) ps vs := by
 cases h with
 | tup e h => exact ⟨_, _, _, rfl, (vw_some.mp e).2.2, h⟩
theorem VR.lst_at {ps : List PV} {v : Value} (h : VR (vw c.F σ s) (.lst ps) v) : ∃ a vs n, v = .ref a /\ s.heap.get? a = some (seqObj "list" vs.toArray n) /\ VRs (vw c.F σ s) ps vs := by
 cases h with
 | lst e h => exact ⟨_, _, _, rfl, (vw_some.mp e).2.2, h⟩
noncomputable def pp (x : Str × Str) : PV := .tup [.str x.1, .str x.2]
theorem kat_tups_of {V : View} {h : Heap} (hV : ∀ a o, V.mem a = some o -> h.get? a = some o) {l : List (Str × Str)} : ∀ {vs : List Value}, VRs V (l.map pp) vs -> ∃ fs, KatTups h vs fs /\ fs.length = l.length /\ ∀ v ∈ fs, ∃ x t, v = .str x t := by
 induction l with
 | nil => intro vs hv; rw [hv.inv_nil]; exact ⟨[], .nil, rfl, fun v hv => nomatch hv⟩
 | cons x l ih =>
  intro vs hv
  obtain ⟨w, ws, rfl, r, h'⟩ := hv.inv_cons
  obtain ⟨fs, k, hl, hs⟩ := ih h'
  obtain ⟨a, us, n, rfl, e, hr⟩ := r.inv_tup
  obtain ⟨u, us, rfl, ru, hr'⟩ := hr.inv_cons
  obtain ⟨t, rfl⟩ := ru.inv_str
  exact ⟨_ :: fs, .cons (hV _ _ e) rfl rfl rfl k, congrArg (· + 1) hl, List.forall_mem_cons.mpr ⟨⟨_, _, rfl⟩, hs⟩⟩
theorem vw_heap {F : List Addr} : ∀ a o, (vw F σ s).mem a = some o -> s.heap.get? a = some o := fun a o e => (vw_some.mp e).2.2
theorem KKd.pairs {l : List (Str × Str)} (h : 0 < l.length) : KKd c (tuples' true) (l.map pp) := fun A σ s vs R hv => by
 obtain ⟨fs, k, hl, hs⟩ := kat_tups_of vw_heap hv
 refine kat_kind (T := .type "str") k (by lia) (fun v hv => ?_) rfl ?_
 ·obtain ⟨x, t, rfl⟩ := hs v hv
  exact Looks.of_pure rfl
 ·exact ⟨rfl, rfl⟩
noncomputable def pLt (x y : Str × Str) : Bool := if x.1 = y.1 then (if x.2 = y.2 then false else decide (x.2.cps.toList < y.2.cps.toList)) else decide (x.1.cps.toList < y.1.cps.toList)
theorem KLt.pairs {x y : Str × Str} {b' : Bool} (hb : b' = pLt x y) : KLt c (tuples' true) (pp x) (pp y) (fun b => b = b') := fun A σ s v w hA hu R hv hw => by
 subst hb
 obtain ⟨a, vs, n, rfl, e, r⟩ := VR.tup_at (p := .none) hv
 obtain ⟨a', vs', n', rfl, e', r'⟩ := VR.tup_at (p := .none) hw
 obtain ⟨v1, t1, rfl, q1, r1⟩ := r.inv_cons
 obtain ⟨v2, t2, rfl, q2, r2⟩ := r1.inv_cons
 have e0 := r2.inv_nil
 subst e0
 obtain ⟨w1, u1, rfl, q1', r1'⟩ := r'.inv_cons
 obtain ⟨w2, u2, rfl, q2', r2'⟩ := r1'.inv_cons
 have e0' := r2'.inv_nil
 subst e0'
 obtain ⟨k1, rfl⟩ := q1.inv_str
 obtain ⟨k2, rfl⟩ := q2.inv_str
 obtain ⟨k1', rfl⟩ := q1'.inv_str
 obtain ⟨k2', rfl⟩ := q2'.inv_str
 refine kat_lt e rfl e' rfl ?_
 show KatLex _ _ _ _ _ _ [(.str x.1 k1, .str y.1 k1'), (.str x.2 k2, .str y.2 k2')] 0 s
 refine kat_cons (wpAny_eqBool_str ?_)
 unfold pLt
 by_cases h1 : x.1 = y.1
 ·rw [if_pos h1, decide_eq_true h1]
  refine kat_yes (kat_cons (wpAny_eqBool_str ?_))
  by_cases h2 : x.2 = y.2
  ·rw [if_pos h2, decide_eq_true h2]
   exact kat_yes (kat_nil ⟨rfl, .refl R⟩)
  ·rw [if_neg h2, decide_eq_false h2]
   exact kat_no (kat_one _ _ (lt_str ⟨rfl, .refl R⟩))
 ·rw [if_neg h1, decide_eq_false h1]
  exact kat_no (oneLt_str ⟨rfl, .refl R⟩)
theorem lt_loop (l b : Addr) (xs ys : Array Value) (n n2 : Nat) (hx : ∀ v ∈ xs, ∃ x t, v = .str x t) (hy : ∀ v ∈ ys, ∃ x t, v = .str x t) (k : Nat) :
  ∀ i : Nat, xs.size - i = k -> Meets (Builtin.«list.__eq__.loop» ⟨[.ref l, .ref b, rawInt i, rawInt 0], []⟩)
   (fun A R s => s.heap.get? l = some (seqObj "list" xs n) /\ s.heap.get? b = some (seqObj "list" ys n2) /\ ∀ b, R (.ok (.ret (.bool b))) s) := by
 induction k with
 | zero =>
  intro i hk prog w A R s h
  obtain ⟨hp, g, d, tk, os⟩ := s; obtain ⟨hl, hb, h⟩ := h
  wp_walk using wpAny_loadPart' hl, wpAny_loadPart' hb
  have hi1 : xs[((i : Nat) : Int).toNat]? = none := by simp; lia
  rw [hi1]
  wp_walk using wpAny_loadPart' hl, wpAny_loadPart' hb
  exact h _
 | succ k ih =>
  intro i hk prog w A R s h
  obtain ⟨hp, g, d, tk, os⟩ := s; obtain ⟨hl, hb, h⟩ := h
  wp_walk using wpAny_loadPart' hl, wpAny_loadPart' hb
  have hlt : i < xs.size := nB hk
  have hi1 : xs[((i : Nat) : Int).toNat]? = some xs[i] := by simp [hlt]
  obtain ⟨x, t, ex⟩ := hx xs[i] (Array.getElem_mem hlt)
  rw [ex] at hi1
  have hc : ((i : Int) + 1) = ((i + 1 : Nat) : Int) := by push_cast; rfl
  by_cases hlt2 : i < ys.size
  ·have hi2 : ys[((i : Nat) : Int).toNat]? = some ys[i] := by simp [hlt2]
   obtain ⟨y, u, ey⟩ := hy ys[i] (Array.getElem_mem hlt2)
   rw [ey] at hi2
   rw [hi1, hi2]
   refine wb (wpAny_eqBool_str ?_)
   by_cases hxy : x = y
   ·rw [decide_eq_true hxy]
    wp_walk
    rw [hc]
    exact ⟨plainId_quiet PySem.MeetsSeq3.plain_eq_loop _, codeAny_builtin PySem.MeetsSeq3.entry_eq_loop (by
     rw [Around.under_plainId PySem.MeetsSeq3.plain_eq_loop _]
     exact ih (i + 1) (nA hk) prog w A R _ ⟨hl, hb, h⟩)⟩
   ·rw [decide_eq_false hxy]
    wp_walk using wpAny_loadPart' hl, wpAny_loadPart' hb
    rw [hi1, hi2]
    refine wb (lt_str ?_)
    wp_walk
    exact h _
  ·have hi2 : ys[((i : Nat) : Int).toNat]? = none := by simp; lia
   rw [hi1, hi2]
   wp_walk using wpAny_loadPart' hl, wpAny_loadPart' hb
   exact h _
theorem list_lt_meets (l b : Addr) (xs ys : Array Value) (n n2 : Nat) (hx : ∀ v ∈ xs, ∃ x t, v = .str x t) (hy : ∀ v ∈ ys, ∃ x t, v = .str x t) :
  Meets (Builtin.«list.__lt__» ⟨[.ref l, .ref b], []⟩)
   (fun A R s => s.heap.get? l = some (seqObj "list" xs n) /\ s.heap.get? b = some (seqObj "list" ys n2) /\ ∀ b, R (.ok (.ret (.bool b))) s) := by
 intro prog w A R s h
 obtain ⟨hp, g, d, tk, os⟩ := s; obtain ⟨hl, hb, h⟩ := h
 have f3 := AutoSeq1.sub_list_list
 wp_walk using wpAny_loadPart' hl, wpAny_loadPart' hb
 exact ⟨plainId_quiet PySem.MeetsSeq3.plain_eq_loop _, codeAny_builtin PySem.MeetsSeq3.entry_eq_loop (by
  rw [Around.under_plainId PySem.MeetsSeq3.plain_eq_loop _]
  exact lt_loop l b xs ys n n2 hx hy _ 0 rfl prog w A R _ ⟨hl, hb, h⟩)⟩
theorem KLt.lists {xs ys : List Str} : KLt c oneType' (.lst (xs.map .str)) (.lst (ys.map .str)) (fun _ => True) := fun A σ s v w hA hu R hv hw => by
 obtain ⟨a, vs, n, rfl, e, r⟩ := hv.lst_at
 obtain ⟨a', vs', n', rfl, e', r'⟩ := hw.lst_at
 rw [keyLt'_oneType, oneLt'_eq]
 simp only [if_true]
 refine wb (wpAny_cRoomFor (by show A.units < 9900; lia) ?_)
 refine wb (wpAny_callSpecialIfBound?_slot ⟨_, e, rfl⟩ F.slot_list_lt ?_)
 refine call_meets F.slot_list_lt ⟨_, e, rfl⟩ F.entry_list_lt (F.args_list_lt_2 _ _) (list_lt_meets a a' _ _ n n' (fun v hv => r.allStr v (by simpa using hv)) fun v hv => r'.allStr v (by simpa using hv)) ⟨e, e', fun b => ?_⟩
 exact wpAny_truthy_bool ⟨trivial, .refl R⟩
theorem KKd.lists {l : List (List Str)} (h : 2 <= l.length) : KKd c oneType' (l.map fun xs => .lst (xs.map .str)) := fun A σ s vs R hv => by
 refine kas_kind (T := .type "list") (by rw [hv.length, lnM]; exact h) (fun v hm => ?_) rfl rfl ⟨rfl, rfl⟩
 have go : ∀ {l : List (List Str)} {vs : List Value}, VRs (vw c.F σ s) (l.map fun xs => .lst (xs.map .str)) vs -> ∀ v ∈ vs, Looks c.M s.heap (typeOf v) (.type "list") := fun {l} => by
  induction l with
  | nil => intro vs hv v hm; rw [hv.inv_nil] at hm; cases hm
  | cons x l ih =>
   intro vs hv v hm
   obtain ⟨w, ws, rfl, r, h'⟩ := hv.inv_cons
   rcases List.mem_cons.mp hm with rfl | hm
   ·obtain ⟨a, vs, n, rfl, e, _⟩ := r.lst_at
    exact (Looks.ld e).andThen .now
   ·exact ih h' v hm
 exact go hv v hm
end
theorem entry_set_iter : entryFor table "set.__iter__" = some Builtin.«frozenset.__iter__» :=
 entryFor_alias (id' := "frozenset.__iter__") (by kernel_rfl) rfl (by decide +kernel) (by kernel_rfl)
theorem slot_setiter_next : Slot "set_iterator" "__next__" "set_iterator.__next__" :=
 .of (owner := "set_iterator") (n := "__next__") (by rw [typeLookup_type, builtinLookup_eq_fast]; kernel_rfl) (by decide +kernel) (by decide +kernel) (by decide +kernel)
  (by first | exact .inl (by decide +kernel) | exact .inr (by decide +kernel)) (by rw [isSubtype_type]; kernel_rfl)
theorem entry_setiter_next : entryFor table "set_iterator.__next__" = some Builtin.«set_iterator.__next__» := entryFor_of_fast (by kernel_rfl)
theorem args_setiter_next (a : Value) : argsOk "set_iterator.__next__" ⟨[a], []⟩ := by unfold argsOk; kernel_rfl
theorem eraseIdx_perm {α : Type} : ∀ (l : List α) (i : Nat) (hi : i < l.length), (l[i] :: l.eraseIdx i).Perm l
 | x :: l, 0, _ => .refl _
 | x :: l, i + 1, hi => by
  have hi' : i < l.length := by simpa using hi
  rw [List.getElem_cons_succ, List.eraseIdx_cons_succ]
  exact (List.Perm.swap _ _ _).trans ((eraseIdx_perm l i hi').cons x)
section
variable {M : Model} {A : Around} {E : Value -> Shared -> Prop} {s : Shared}
theorem wpAny_choose {src : Source} {n : Nat} {Q : Nat -> Shared -> Prop} (hn : n ≠ 0) (h : ∀ i d, i < n -> Q i { s with drawn := d }) : wpAny M A (choose src n) Q E s := fun Γ p hΓ => by
 unfold choose
 rw [Sem.wp_choose]
 refine ⟨hn, ?_⟩
 exact Sem.wp_pure .. ▸ h _ _ (Nat.mod_lt _ (Nat.pos_of_ne_zero hn))
theorem wpAny_drawOrder {α : Type} {Q : List α -> Shared -> Prop} (n : Nat) : ∀ (xs : List α) (s : Shared), xs.length = n -> (∀ ys d, ys.Perm xs -> Q ys { s with drawn := d }) -> wpAny M A (drawOrder n xs) Q E s := by
 induction n generalizing Q with
 | zero =>
  intro xs s hl h
  cases List.eq_nil_of_length_eq_zero hl
  exact wq (h [] s.drawn (.refl _))
 | succ n ih =>
  intro xs s hl h
  cases xs with
  | nil => cases hl
  | cons x xs =>
   refine wb (wpAny_choose (Nat.succ_ne_zero _) fun i d hi => ?_)
   rw [List.getElem?_eq_getElem hi]
   dsimp only
   refine wb (ih _ _ (by rw [List.length_eraseIdx_of_lt hi]; exact Nat.succ.inj hl) fun ys d' hp => wq ?_)
   exact h _ d' ((hp.cons _).trans (eraseIdx_perm _ i hi))
end
theorem pick_go {α : Type} (next : Nat -> Nat) (fuel : Nat) : ∀ (k : Nat) (left : List α) (out : Array α), left.length = fuel -> (pickOrder.go next fuel k left out).toList.Perm (out.toList ++ left) := by
 induction fuel with
 | zero =>
  intro k left out hl
  cases List.eq_nil_of_length_eq_zero hl
  show out.toList.Perm (out.toList ++ [])
  rw [List.append_nil]
 | succ fuel ih =>
  intro k left out hl
  have hi : next k % left.length < left.length := Nat.mod_lt _ (by lia)
  unfold pickOrder.go
  rw [List.getElem?_eq_getElem hi]
  dsimp only
  refine (ih (k + 1) _ _ (by rw [List.length_eraseIdx_of_lt hi, hl]; rfl)).trans ?_
  rw [Array.toList_push, List.append_assoc]
  exact (eraseIdx_perm left _ hi).append_left _
theorem pickOrder_perm {α : Type} (next : Nat -> Nat) (xs : Array α) : (pickOrder next xs).toList.Perm xs.toList := by
 have := pick_go next xs.size 0 xs.toList #[] (by simp)
 rw [show (#[] : Array α).toList ++ xs.toList = xs.toList from rfl] at this
 exact this
section
variable {prog : Program} {w : World} {A : Around} {E : Value -> Shared -> Prop} {s : Shared}
noncomputable abbrev sitO (first : Value) (i : Nat) (a : Addr) (n ep : Nat) : Obj := { cls := .type "set_iterator", dict := none, data := .fields #[first, .int i 0, .ref a, .int n 0, .int ep 0], slots := #[] }
theorem sit_slot {it a : Addr} {i slot slot' ep : Nat} {oa : Obj} {es : Array (Int × Value)} {t : SetTable} {x : Value} {Q : Option Value -> Shared -> Prop} (hit : s.heap.get? it = some (sitO (.int slot 0) i a es.size ep)) (ho : s.heap.get? a = some oa) (hd : oa.data = .set es ep t) (hf : t.fits es.size = true)
  (hn : ∀ (A : Around) (E : Value -> Shared -> Prop) (Q : Option (Value × Nat) -> Shared -> Prop), Q (some (x, slot')) s -> wpAny (model prog w) A (setNext a slot i ep) Q E s)
  (hQ : ∀ h', Heap.SameBut it s.heap h' -> h'.get? it = some (sitO (.int slot' 0) (i + 1) a es.size ep) -> Q (some x) { s with heap := h' }) : wpAny (model prog w) A (pyNext (.ref it)) Q E s := by
 have hT : s.TypeIs (.ref it) "set_iterator" := ⟨_, hit, rfl⟩
 unfold pyNext
 refine wb (wpAny_attempt (wpAny_callSpecial?_slot (name := Str.ofString "__next__") hT slot_setiter_next
  (wpAny_call_entry slot_setiter_next hT entry_setiter_next ?_ (args_setiter_next _))))
 unfold Builtin.«set_iterator.__next__»
 refine wpAny_bind (m := slotArgs _ _ _) (wq ?_)
 refine wb (wpAny_fieldsOf hit rfl ?_)
 dsimp only
 refine wb (wpAny_setEntries_of ho hd hf ?_)
 rw [if_neg (by simp)]
 simp only [Int.toNat_natCast]
 refine wb (hn _ _ _ ?_)
 dsimp only
 refine wb (wpAny_setField_rec hit (by simp) fun h1 he1 hs1 => ?_)
 refine wb (wpAny_setField_rec (s := { s with heap := h1 }) he1 (by simp) fun h2 he2 hs2 => ?_)
 refine wq ⟨x, rfl, wq (hQ h2 (hs1.trans hs2) ?_)⟩
 exact he2
theorem sit_tup {it a T : Addr} {i ep place : Nat} {oa oT : Obj} {es : Array (Int × Value)} {t : SetTable} {h : Int} {x : Value} {tk : Tok} {ps : Array Value} {m : Nat} {Q : Option Value -> Shared -> Prop} (hit : s.heap.get? it = some (sitO (.ref T) i a es.size ep)) (ho : s.heap.get? a = some oa) (hd : oa.data = .set es ep t) (hf : t.fits es.size = true)
  (hT : s.heap.get? T = some oT) (hTd : oT.data = .seq ps m) (hp : ps[i]? = some (.int place tk)) (hx : es[place]? = some (h, x))
  (hQ : ∀ h', Heap.SameBut it s.heap h' -> h'.get? it = some (sitO (.ref T) (i + 1) a es.size ep) -> Q (some x) { s with heap := h' }) : wpAny (model prog w) A (pyNext (.ref it)) Q E s := by
 have hTy : s.TypeIs (.ref it) "set_iterator" := ⟨_, hit, rfl⟩
 unfold pyNext
 refine wb (wpAny_attempt (wpAny_callSpecial?_slot (name := Str.ofString "__next__") hTy slot_setiter_next
  (wpAny_call_entry slot_setiter_next hTy entry_setiter_next ?_ (args_setiter_next _))))
 unfold Builtin.«set_iterator.__next__»
 refine wpAny_bind (m := slotArgs _ _ _) (wq ?_)
 refine wb (wpAny_fieldsOf hit rfl ?_)
 dsimp only
 refine wb (wpAny_setEntries_of ho hd hf ?_)
 rw [if_neg (by simp)]
 refine wb (wpAny_seqItems hT hTd ?_)
 simp only [Int.toNat_natCast]
 rw [hp]
 dsimp only
 unfold setNextDrawn
 refine wb (wb (wpAny_setState_of ho hd hf ?_))
 dsimp only
 simp only [Int.toNat_natCast]
 rw [if_neg (by simp), hx]
 refine wq ?_
 refine wb (wpAny_setField_rec hit (by simp) fun h1 he1 hs1 => ?_)
 exact wq ⟨x, rfl, wq (hQ h1 hs1 he1)⟩
theorem sit_raise {it : Addr} {h1 : Heap} {Q : Option Value -> Shared -> Prop} (hh : A.handled = none) (hs : Heap.ExtBut it s.heap h1) (hQ : ∀ h', Heap.ExtBut it s.heap h' -> Q none { s with heap := h' }) :
  wpAny (model prog w) A.in1 (newExc (.type "StopIteration") [] >>= fun e => raiseNew e : Sem PySem.Fin) (fun fin s' => ∃ r, fin = .done (.ret r) /\ False) (fun e s' => wpAny (model prog w) A (do if <- isInstance e (.type "StopIteration") then pure none else throw e) Q E s') { s with heap := h1 } := by
 refine wb ?_
 simp only [newExc, newTuple]
 refine wb (wpAny_newObj_type ?_ (by size_fits))
 refine wpAny_bind (m := firstArgMember _ _) (wpAny_of_eq (a := Value.none) (by first | rfl | (simp only [firstArgMember]; rfl)) ?_)
 refine wpAny_newObj_type ?_ (by size_fits)
 simp only [raiseNew]
 refine wb (wpAny_handled ?_)
 rw [show A.in1.handled = none from hh]
 refine wb (wq (wpAny_throw ?_))
 refine wb (wpAny_isInstance (T := "StopIteration") (b := true) ⟨_, Heap.get?_push_size _ rfl, rfl⟩ isSubtype_stop ?_)
 exact wq (hQ _ ((hs.push _).push _))
theorem sit_end_slot {it a : Addr} {i slot ep : Nat} {oa : Obj} {es : Array (Int × Value)} {t : SetTable} {Q : Option Value -> Shared -> Prop} (hh : A.handled = none) (hit : s.heap.get? it = some (sitO (.int slot 0) i a es.size ep)) (ho : s.heap.get? a = some oa) (hd : oa.data = .set es ep t) (hf : t.fits es.size = true)
  (hn : ∀ (A : Around) (E : Value -> Shared -> Prop) (Q : Option (Value × Nat) -> Shared -> Prop), Q none s -> wpAny (model prog w) A (setNext a slot i ep) Q E s)
  (hQ : ∀ h', Heap.ExtBut it s.heap h' -> Q none { s with heap := h' }) : wpAny (model prog w) A (pyNext (.ref it)) Q E s := by
 have hT : s.TypeIs (.ref it) "set_iterator" := ⟨_, hit, rfl⟩
 unfold pyNext
 refine wb (wpAny_attempt (wpAny_callSpecial?_slot (name := Str.ofString "__next__") hT slot_setiter_next
  (wpAny_call_entry slot_setiter_next hT entry_setiter_next ?_ (args_setiter_next _))))
 unfold Builtin.«set_iterator.__next__»
 refine wpAny_bind (m := slotArgs _ _ _) (wq ?_)
 refine wb (wpAny_fieldsOf hit rfl ?_)
 dsimp only
 refine wb (wpAny_setEntries_of ho hd hf ?_)
 rw [if_neg (by simp)]
 simp only [Int.toNat_natCast]
 refine wb (hn _ _ _ ?_)
 dsimp only
 refine wb (wpAny_setField_rec hit (by simp) fun h1 he1 hs1 => ?_)
 exact wm (sit_raise (s := s) hh hs1.extBut hQ) (fun _ _ ⟨_, _, e⟩ => e.elim)
theorem sit_end_tup {it a T : Addr} {i ep : Nat} {oa oT : Obj} {es : Array (Int × Value)} {t : SetTable} {ps : Array Value} {m : Nat} {Q : Option Value -> Shared -> Prop} (hh : A.handled = none) (hit : s.heap.get? it = some (sitO (.ref T) i a es.size ep)) (ho : s.heap.get? a = some oa) (hd : oa.data = .set es ep t) (hf : t.fits es.size = true)
  (hT : s.heap.get? T = some oT) (hTd : oT.data = .seq ps m) (hp : ps[i]? = none)
  (hQ : ∀ h', Heap.ExtBut it s.heap h' -> Q none { s with heap := h' }) : wpAny (model prog w) A (pyNext (.ref it)) Q E s := by
 have hTy : s.TypeIs (.ref it) "set_iterator" := ⟨_, hit, rfl⟩
 unfold pyNext
 refine wb (wpAny_attempt (wpAny_callSpecial?_slot (name := Str.ofString "__next__") hTy slot_setiter_next
  (wpAny_call_entry slot_setiter_next hTy entry_setiter_next ?_ (args_setiter_next _))))
 unfold Builtin.«set_iterator.__next__»
 refine wpAny_bind (m := slotArgs _ _ _) (wq ?_)
 refine wb (wpAny_fieldsOf hit rfl ?_)
 dsimp only
 refine wb (wpAny_setEntries_of ho hd hf ?_)
 rw [if_neg (by simp)]
 refine wb (wpAny_seqItems hT hTd ?_)
 simp only [Int.toNat_natCast]
 rw [hp]
 dsimp only
 refine wb (wpAny_setField_rec hit (by simp) fun h1 he1 hs1 => ?_)
 refine wb (wpAny_setField_rec (s := { s with heap := h1 }) he1 (by simp) fun h2 he2 hs2 => ?_)
 exact wm (sit_raise (s := s) hh (hs1.trans hs2).extBut hQ) (fun _ _ ⟨_, _, e⟩ => e.elim)
theorem setNext_text {a : Addr} {i ep : Nat} {oa : Obj} {es : Array (Int × Value)} {t : SetTable} {Q : Option (Value × Nat) -> Shared -> Prop} (hx : w.params.followText "set-order" = true) (ho : s.heap.get? a = some oa) (hd : oa.data = .set es ep t) (hf : t.fits es.size = true)
  (h : Q (((pickOrder (w.params.setOrder a ep) es)[i]?).map fun e => (e.2, 0)) s) : wpAny (model prog w) A (setNext a 0 i ep) Q E s := by
 unfold setNext
 refine wb (wpAny_setState_of ho hd hf ?_)
 dsimp only
 unfold setsByText
 refine wb (wb (wpAny_askSetting (wq ?_)))
 refine wpAny_ite_split (fun _ => ?_) (fun hn => absurd hx hn)
 rw [if_neg (by simp)]
 unfold setWalk setsByText
 refine wb (wb (wpAny_setState_of ho hd hf ?_))
 dsimp only
 refine wb (wb (wpAny_askSetting (wq ?_)))
 refine wpAny_ite_split (fun _ => ?_) (fun hn => absurd hx hn)
 refine wb (wpAny_askSetting (wq ?_))
 exact wq h
theorem setNext_one {a : Addr} {i slot ep j : Nat} {oa : Obj} {es : Array (Int × Value)} {Q : Option (Value × Nat) -> Shared -> Prop} (hx : w.params.followText "set-order" = false) (ho : s.heap.get? a = some oa) (hd : oa.data = .set es ep { T1 true j with plain := false }) (hz : es.size = 1)
  (hs : slot = 0 /\ i = 0 \/ slot = j + 1 /\ i = 1)
  (h : Q ((es[i]?).map fun e => (e.2, j + 1)) s) : wpAny (model prog w) A (setNext a slot i ep) Q E s := by
 have hf : ({ T1 true j with plain := false } : SetTable).fits es.size = true := by rw [hz]; rfl
 unfold setNext
 refine wb (wpAny_setState_of ho hd hf ?_)
 dsimp only
 unfold setsByText
 refine wb (wb (wpAny_askSetting (wq ?_)))
 refine wpAny_ite_split (fun hn => absurd (hx.symm.trans hn) (by simp)) (fun _ => ?_)
 obtain ⟨e, rfl⟩ : ∃ e, es = #[e] := ⟨es[0], by apply Array.ext (by simp [hz]); intro k h1 h2; have : k = 0 := (by lia); subst this; rfl⟩
 rcases hs with ⟨rfl, rfl⟩ | ⟨rfl, rfl⟩
 ·show wpAny (model prog w) A (do
   pure ()
   pure (match (#[e])[SetTable.below #[j] 0]?, (#[j])[SetTable.below #[j] 0]? with
    | some (_, x), some j => some (x, j + 1)
    | _, _ => none)) Q E s
  refine wb (wq ?_)
  have hb : SetTable.below #[j] 0 = 0 := by simp [SetTable.below, SetTable.below.go]
  rw [hb]
  exact wq h
 ·show wpAny (model prog w) A (do
   pure ()
   pure (match (#[e])[SetTable.below #[j] (j + 1)]?, (#[j])[SetTable.below #[j] (j + 1)]? with
    | some (_, x), some j => some (x, j + 1)
    | _, _ => none)) Q E s
  refine wb (wq ?_)
  have hb : SetTable.below #[j] (j + 1) = 1 := by simp [SetTable.below, SetTable.below.go]
  rw [hb]
  exact wq h
end
section
variable {c : Cx} {σ σ' τ : Store} {s : Shared}
structure ItS (c : Cx) (it : Addr) (l : List PV) (St : Nat -> Obj -> Prop) (need : Store -> Prop) : Prop where
 item : ∀ A s σ i p, A.handled = none -> Rep c (σ ++ [(it, .that (St i))]) s -> need σ -> l[i]? = some p ->
  wpAny c.M A (pyNext (.ref it)) (fun r s' => ∃ v, r = some v /\ Out c (σ ++ [(it, .that (St i))]) s (σ ++ [(it, .that (St (i + 1)))]) s' /\ VR (vw c.F (σ ++ [(it, .that (St (i + 1)))]) s') p v) (fun _ _ => False) s
 stop : ∀ A s σ, A.handled = none -> Rep c (σ ++ [(it, .that (St l.length))]) s -> need σ ->
  wpAny c.M A (pyNext (.ref it)) (fun r s' => r = none /\ Out c (σ ++ [(it, .that (St l.length))]) s σ s') (fun _ _ => False) s
theorem Out.drawn (R : Rep c σ s) (d : Drawn) : Out c σ s σ { s with drawn := d } :=
 ⟨⟨rfl, rfl⟩, ⟨R.nodup, R.disj, R.old, R.sys, R.big, R.base, R.cells⟩, ⟨fun _ _ e => e, Nat.le_refl _⟩, fun _ _ _ e => e⟩
structure SetO (w : World) (L : List Str) (oa : Obj) (es : Array (Int × Value)) (ep : Nat) (t : SetTable) : Prop where
 exact_ : oa.ExactSet
 data : oa.data = .set es ep t
 fits : t.fits es.size = true
 plain : t.plain = false
 keys : ∃ ks, ks.Perm L /\ SE w ks es.toList
 one : es.size = 1 -> ∃ led j, t = { T1 led j with plain := false } /\ (w.params.followText "set-order" = false -> led = true)
theorem SX.open {w : World} {L : List Str} {o : Obj} (h : SX w L o) : ∃ es ep t, SetO w L o es ep t := by
 obtain ⟨h1, es, ep, t, h2, h3, h4, h5, h6⟩ := h
 exact ⟨es, ep, t, h1, h2, h3, h4, h5, h6⟩
theorem SE.get {w : World} {ks : List Str} {es : List (Int × Value)} {i : Nat} {p : PV} (h : SE w ks es) (hi : (ks.map PV.str)[i]? = some p) : ∃ h k t, p = .str k /\ es[i]? = some (h, .str k t) := by
 induction h generalizing i with
 | nil => cases i <;> cases hi
 | cons h ih =>
  cases i with
  | zero => cases hi; exact ⟨_, _, _, rfl, rfl⟩
  | succ i => exact ih hi
theorem fmap_pmap {es : Array (Int × Value)} {ps : List Nat} (hps : ∀ i ∈ ps, i < es.size) : ps.filterMap (fun i => es[i]?) = ps.pmap (fun i hi => es[i]) hps := by
 induction ps with
 | nil => rfl
 | cons i ps ih => rw [List.filterMap_cons, Array.getElem?_eq_getElem (hps i (.head _)), List.pmap_cons, ih fun j hj => hps j (.tail _ hj)]
noncomputable def SitSt (first : Nat -> Value) (a : Addr) (n ep : Nat) (i : Nat) (o : Obj) : Prop := o = sitO (first i) i a n ep
theorem Rep.last {it : Addr} {I : Obj -> Prop} (R : Rep c (σ ++ [(it, .that I)]) s) : ∃ o, s.heap.get? it = some o /\ I o := let ⟨o, e, r⟩ := R.cells (it, .that I) (memR _ (.head _)); ⟨o, e, r⟩
theorem itS_slot {it a : Addr} {oa : Obj} {es : Array (Int × Value)} {ep : Nat} {t : SetTable} {slot : Nat -> Nat} {ord : List (Int × Value)} {ks : List Str} (hd : oa.data = .set es ep t) (hf : t.fits es.size = true) (hk : SE c.w ks ord)
  (hnext : ∀ (i : Nat) (s : Shared) (A : Around) (E : Value -> Shared -> Prop) (Q : Option (Value × Nat) -> Shared -> Prop), s.heap.get? a = some oa -> i <= ord.length -> Q ((ord[i]?).map fun e => (e.2, slot (i + 1))) s -> wpAny c.M A (setNext a (slot i) i ep) Q E s) :
  ItS c it (ks.map .str) (SitSt (fun i => .int (slot i) 0) a es.size ep) (fun σ => (a, Cell.obj oa) ∈ σ) where
 item := fun A s σ i p hA R hn hp => by
  obtain ⟨o, ho, rfl⟩ := R.last
  obtain ⟨oa', hoa, rfl⟩ := R.cells (a, .obj oa) (memL _ hn)
  obtain ⟨h, k, tk, rfl, ev⟩ := hk.get hp
  have hi : i < ord.length := (List.getElem?_eq_some_iff.mp ev).1
  refine sit_slot (x := .str k tk) (slot' := slot (i + 1)) ho hoa hd hf (fun A E Q q => hnext i s A E Q hoa (Nat.le_of_lt hi) (by rw [ev]; exact q)) fun h' hs he => ?_
  exact ⟨.str k tk, rfl, R.upd (x' := .that (SitSt (fun i => .int (slot i) 0) a es.size ep (i + 1))) Up.last hs he rfl s.toks (Nat.le_refl _), .str _ _⟩
 stop := fun A s σ hA R hn => by
  obtain ⟨o, ho, rfl⟩ := R.last
  obtain ⟨oa', hoa, rfl⟩ := R.cells (a, .obj oa) (memL _ hn)
  have hl := hk.length
  rw [lnM] at ho ⊢
  refine sit_end_slot hA ho hoa hd hf (fun A E Q q => hnext ks.length s A E Q hoa (by lia) (by rw [List.getElem?_eq_none (by lia)]; exact q)) fun h' hs => ⟨rfl, ?_⟩
  rw [lnM] at R
  exact R.grow (τ := [_]) (fun b o hb eo => hs b o (by simpa [addrs] using hb) eo) (Nat.le_refl _)
theorem itS_tup {it a T : Addr} {oa : Obj} {es : Array (Int × Value)} {ep : Nat} {t : SetTable} {ps : List Nat} {m : Nat} {ks : List Str} (hd : oa.data = .set es ep t) (hf : t.fits es.size = true) (hk : SE c.w ks (ps.filterMap fun i => es[i]?)) (hps : ∀ i ∈ ps, i < es.size)
  (hT : c.β.mem T = some (seqObj "tuple" (ps.map fun (i : Nat) => rawInt i).toArray m)) :
  ItS c it (ks.map .str) (SitSt (fun _ => .ref T) a es.size ep) (fun σ => (a, Cell.obj oa) ∈ σ) where
 item := fun A s σ i p hA R hn hp => by
  obtain ⟨o, ho, rfl⟩ := R.last
  obtain ⟨oa', hoa, rfl⟩ := R.cells (a, .obj oa) (memL _ hn)
  obtain ⟨h, k, tk, rfl, ev⟩ := hk.get hp
  have e2 := fmap_pmap hps
  rw [e2] at ev
  have hi : i < ps.length := by have := (List.getElem?_eq_some_iff.mp ev).1; simpa using this
  have e3 : es[ps[i]]'(hps _ (List.getElem_mem hi)) = (h, .str k tk) := by
   rw [List.getElem?_eq_getElem (by simpa using hi)] at ev
   have := Option.some.inj ev
   simpa using this
  refine sit_tup (x := .str k tk) (place := ps[i]) (tk := 0) ho hoa hd hf (R.le _ _ hT) rfl (by simp [List.getElem?_eq_getElem hi]; rfl) (h := h) (by rw [Array.getElem?_eq_getElem (hps _ (List.getElem_mem hi)), e3]) fun h' hs he => ?_
  exact ⟨.str k tk, rfl, R.upd (x' := .that (SitSt (fun _ => .ref T) a es.size ep (i + 1))) Up.last hs he rfl s.toks (Nat.le_refl _), .str _ _⟩
 stop := fun A s σ hA R hn => by
  obtain ⟨o, ho, rfl⟩ := R.last
  obtain ⟨oa', hoa, rfl⟩ := R.cells (a, .obj oa) (memL _ hn)
  have hl := hk.length
  have e2 : (ps.filterMap (fun i => es[i]?)).length = ps.length := by rw [fmap_pmap hps, List.length_pmap]
  rw [lnM] at ho ⊢
  rw [e2] at hl
  refine sit_end_tup hA ho hoa hd hf (R.le _ _ hT) rfl (by simp; lia) fun h' hs => ⟨rfl, ?_⟩
  rw [lnM] at R
  exact R.grow (τ := [_]) (fun b o hb eo => hs b o (by simpa [addrs] using hb) eo) (Nat.le_refl _)
theorem SE.fmap {w : World} {es : Array (Int × Value)} {L ks : List Str} (hp : ks.Perm L) (hk : SE w ks es.toList) {ps : List Nat} (hps : ps.Perm (List.range es.size)) : ∃ ks', ks'.Perm L /\ SE w ks' (ps.filterMap fun (i : Nat) => es[i]?) := by
 have h1 : (ps.filterMap fun (i : Nat) => es[i]?).Perm es.toList := by
  have := hps.filterMap (fun (i : Nat) => es[i]?)
  refine this.trans ?_
  have e := pick_range es.toList
  unfold pick at e
  rw [Array.length_toList] at e
  have e2 : (fun (i : Nat) => es[i]?) = fun (i : Nat) => es.toList[i]? := by funext i; simp
  rw [e2, e]
 obtain ⟨ks', p', h'⟩ := hk.perm h1.symm
 exact ⟨ks', p'.trans hp, h'⟩
theorem Rep.newLast (R : Rep c σ s) (o : Obj) (I : Obj -> Prop) (hI : I o) (hf : autoParam (o.isFreed = false) aRfl) : Out c σ s (σ ++ [(s.heap.objs.size, .that I)]) { s with heap := s.heap.push o } :=
 (R.push_cell o (.that I) hI hf).perm_r (by
  have := List.perm_append_comm (l₁ := [(s.heap.objs.size, Cell.that I)]) (l₂ := σ)
  exact this.symm)
theorem iter_set {A : Around} {a : Addr} {oa : Obj} {es : Array (Int × Value)} {ep : Nat} {t : SetTable} {L : List Str} (R : Rep c σ s) (hm : (a, Cell.obj oa) ∈ σ) (hS : SetO c.w L oa es ep t) (hne : 0 < es.size) (hz : es.size <= 8) :
  wpAny c.M A (pyIter (.ref a)) (fun itv s' => ∃ (it : Addr) (St : Nat -> Obj -> Prop) (ks : List Str), ks.Perm L /\ itv = .ref it /\ Out c σ s (σ ++ [(it, .that (St 0))]) s' /\ ItS (c.ext c.F (vw c.F (σ ++ [(it, .that (St 0))]) s')) it (ks.map .str) St (fun σ => (a, Cell.obj oa) ∈ σ)) (fun _ _ => False) s := by
 obtain ⟨oa', hoa, rfl⟩ := R.cells (a, .obj oa) hm
 have hT : s.TypeIs (.ref a) "set" := ⟨_, hoa, hS.exact_.1⟩
 obtain ⟨ks, hkp, hks⟩ := hS.keys
 refine wpAny_pyIter_slot hT F.slot_set_iter (wpAny_call_entry F.slot_set_iter hT entry_set_iter ?_ (F.args_set_iter_1 _))
 unfold Builtin.«frozenset.__iter__» Builtin.Frozenset.slot0 slotArgs
 simp only [List.isEmpty_nil, Bool.not_true, Bool.false_eq_true, ↓reduceIte, bind_assoc, List.length_nil, bne_self_eq_false]
 unfold Builtin.Frozenset.addrOf Builtin.Frozenset.sizeOf
 refine wb (wq ?_)
 try dsimp only
 refine wb (wq ?_)
 refine wb (wb (wpAny_setEntries_of hoa hS.data hS.fits (wq ?_)))
 unfold setDrawn setsByText
 refine wb (wb (wpAny_setState_of hoa hS.data hS.fits ?_))
 dsimp only
 refine wb (wb (wpAny_askSetting (wq ?_)))
 show wpAny _ _ (pure (!(c.w.params.followText "set-order") && (!t.plain && decide (es.size > 1))) >>= _) _ _ s
 refine wq ?_
 have fin : ∀ (first : Value) (slot : Nat -> Nat) (s1 : Shared), Out c σ s σ s1 -> True := fun _ _ _ _ => trivial
 cases hx : c.w.params.followText "set-order" with
 | true =>
  simp only [Bool.not_true, Bool.false_and, Bool.false_eq_true, if_false]
  refine wb (wq ?_)
  refine wb (wpAny_setEpoch_of hoa hS.data hS.fits ?_)
  refine wb (wpAny_newObj_type (wq ⟨_, rfl, "set_iterator", _, ⟨_, Heap.get?_push_size _ rfl, rfl⟩, slot_setiter_next.lookup, ?_⟩))
  obtain ⟨ks', hp', hk'⟩ := hks.perm (pickOrder_perm (c.w.params.setOrder a ep) es).symm
  have out := R.newLast (sitO (.int ((fun _ => 0 : Nat -> Nat) 0) 0) 0 a es.size ep) (SitSt (fun i => .int ((fun _ => 0 : Nat -> Nat) i) 0) a es.size ep 0) rfl
  refine ⟨_, SitSt (fun i => .int ((fun _ => 0 : Nat -> Nat) i) 0) a es.size ep, ks', hp'.trans hkp, rfl, out, ?_⟩
  exact itS_slot (c := c.ext c.F _) hS.data hS.fits hk' fun i s' A E Q ho hi q => setNext_text hx ho hS.data hS.fits (by rw [Array.getElem?_toList] at q; exact q)
 | false =>
  by_cases h1 : es.size > 1
  ·simp only [hS.plain, decide_eq_true h1, Bool.not_false, Bool.and_self, if_true]
   refine wb (wpAny_drawOrder _ _ _ List.length_range fun ys d hp => ?_)
   have hyl : ys.length = es.size := by rw [hp.length_eq, List.length_range]
   refine wb (wpAny_newTuple ?_ ?sz)
   case sz => rw [lnM, hyl, sizeLine_eq]; lia
   have o1 := Out.drawn R d
   obtain ⟨o2, hT2⟩ := o1.rep.push_frz (seqObj "tuple" (ys.map fun (i : Nat) => rawInt i).toArray 0)
   refine wb (wpAny_setEpoch_of (Heap.get?_push_of_some _ hoa) hS.data hS.fits ?_)
   refine wb (wpAny_newObj_type (wq ⟨_, rfl, "set_iterator", _, ⟨_, Heap.get?_push_size _ rfl, rfl⟩, slot_setiter_next.lookup, ?_⟩))
   have o3 := o2.rep.newLast (sitO (.ref s.heap.objs.size) 0 a es.size ep) (SitSt (fun _ => .ref s.heap.objs.size) a es.size ep 0) rfl
   obtain ⟨ks', hp', hk'⟩ := SE.fmap hkp hks hp
   refine ⟨_, SitSt (fun _ => .ref s.heap.objs.size) a es.size ep, ks', hp', rfl, (o1.trans o2).trans o3, ?_⟩
   exact itS_tup (c := c.ext c.F _) hS.data hS.fits hk' (fun i hi => range_lt hp hi) (o3.view.mem _ _ hT2)
  ·simp only [decide_eq_false h1, Bool.and_false, Bool.false_eq_true, if_false]
   have h2 : es.size = 1 := by lia
   obtain ⟨led, j, et, hled⟩ := hS.one h2
   have := hled hx
   subst this
   refine wb (wq ?_)
   refine wb (wpAny_setEpoch_of hoa hS.data hS.fits ?_)
   refine wb (wpAny_newObj_type (wq ⟨_, rfl, "set_iterator", _, ⟨_, Heap.get?_push_size _ rfl, rfl⟩, slot_setiter_next.lookup, ?_⟩))
   have out := R.newLast (sitO (.int ((fun i => if i = 0 then 0 else j + 1 : Nat -> Nat) 0) 0) 0 a es.size ep) (SitSt (fun i => .int ((fun i => if i = 0 then 0 else j + 1 : Nat -> Nat) i) 0) a es.size ep 0) rfl
   refine ⟨_, SitSt (fun i => .int ((fun i => if i = 0 then 0 else j + 1 : Nat -> Nat) i) 0) a es.size ep, ks, hkp, rfl, out, ?_⟩
   refine itS_slot (c := c.ext c.F _) hS.data hS.fits hks fun i s' A E Q ho hi q => ?_
   rw [Array.length_toList, h2] at hi
   refine setNext_one (j := j) hx ho (by rw [hS.data, et]) h2 ?_ (by rw [Array.getElem?_toList] at q; exact q)
   rcases Nat.le_one_iff_eq_zero_or_eq_one.mp hi with rfl | rfl
   ·exact .inl ⟨rfl, rfl⟩
   ·exact .inr ⟨rfl, rfl⟩
noncomputable def Col (c : Cx) (p : PV) (σ : Store) (P : List PV -> Prop) : Prop := ∀ A s v, A.handled = none -> Rep c σ s -> VR (vw c.F σ s) p v ->
 wpAny c.M A (collect v) (fun vs s' => ∃ l, P l /\ Out c σ s σ s' /\ VRs (vw c.F σ s') l vs) (fun _ _ => False) s
theorem Rep.recell {a : Addr} {x x' : Cell} {o : Obj} (R : Rep c σ s) (U : Up a x x' σ σ') (ho : s.heap.get? a = some o) (hc : CR c.prog c.w (vw c.F σ s) x' o) : Out c σ s σ' s :=
 R.upd (h' := s.heap) U (Heap.SameBut.refl _ _) ho hc s.toks (Nat.le_refl _)
theorem ext_loop {A : Around} {S it : Addr} {l : List PV} {St : Nat -> Obj -> Prop} {need : Store -> Prop} {β : View} {R : Result -> Shared -> Prop} {σ₀ : Store} {s₀ : Shared} (res : Value) (hA : A.handled = none) (hl : l.length <= sizeLine)
  (I : ItS (c.ext c.F β) it l St need) (hneed : ∀ x, need (σ ++ [(S, .list x)]))
  (hR : ∀ s', Out c σ₀ s₀ (σ ++ [(S, .list l)]) s' -> R (.ok (.ret res)) s') :
  ∀ (k i : Nat) (s : Shared), l.length - i = k -> i <= l.length -> Out c σ₀ s₀ (σ ++ [(S, .list (l.take i))] ++ [(it, .that (St i))]) s -> VLe β (vw c.F (σ ++ [(S, .list (l.take i))] ++ [(it, .that (St i))]) s) ->
   codeAny c.M A (.builtin "list.extend.loop" ⟨[.ref S, .ref it, res], []⟩) R s := by
 intro k
 induction k with
 | zero =>
  intro i s hk hi o hβ
  have hin : i = l.length := nC hk hi
  subst hin
  refine codeAny_builtin PySem.F.entry_extend_loop ?_
  rw [Around.under_plainId PySem.F.plain_extend_loop _]
  show wpAny _ A.in1 (pyNext (.ref it) >>= _) _ _ _
  refine wb (wpAny_mono (I.stop A.in1 s _ hA (o.rep.ext hβ) (hneed _)) (fun r s3 hq1 => ?_) fun _ _ e => e.elim)
  obtain ⟨er, o3⟩ := hq1
  subst er
  refine wq (hR s3 ?_)
  have := o.trans (o3.unext o.rep)
  rw [List.take_length] at this
  exact this
 | succ k ih =>
  intro i s hk hi o hβ
  have hlt : i < l.length := nB hk
  have hq : l[i]? = some l[i] := List.getElem?_eq_getElem hlt
  have hti := List.take_add_one (i := i) (l := l)
  rw [hq] at hti
  generalize l[i] = q at hq hti
  refine codeAny_builtin PySem.F.entry_extend_loop ?_
  rw [Around.under_plainId PySem.F.plain_extend_loop _]
  show wpAny _ A.in1 (pyNext (.ref it) >>= _) _ _ _
  refine wb (wpAny_mono (I.item A.in1 s _ i q hA (o.rep.ext hβ) (hneed _) hq) (fun r s3 hq2 => ?_) fun _ _ e => e.elim)
  obtain ⟨v, er, o3, rv⟩ := hq2
  subst er
  have o3' := o3.unext o.rep
  have U : Up S (.list (l.take i)) (.list (l.take (i + 1))) (σ ++ [(S, .list (l.take i))] ++ [(it, .that (St (i + 1)))]) (σ ++ [(S, .list (l.take (i + 1)))] ++ [(it, .that (St (i + 1)))]) := Up.append_right _ (Up.append _ .head)
  obtain ⟨ob, e, vs, n, rfl, rvs⟩ := o3'.rep.cells _ U.mem
  have e2 := IsL.update (h := s3.heap) e (fun x => x.push v)
  rw [show vs.toArray.push v = (vs ++ [v]).toArray by simp] at e2
  have hvl : vs.length <= sizeLine := by rw [rvs.length, List.length_take]; lia
  have out := o3'.rep.upd (x' := .list (l.take (i + 1))) U (Heap.SameBut.update s3.heap S (Obj.mapSeq fun x => x.push v)) e2 ⟨vs ++ [v], _, rfl, by rw [hti]; exact rvs.append (.cons rv .nil)⟩ s3.toks (Nat.le_refl _)
  dsimp only
  refine wb ?_
  show wpAny _ A.in1 (updateSeq S (·.push v)) _ _ _
  refine wpAny_updateSeq e rfl (wq ⟨plainId_quiet PySem.F.plain_extend_loop _, ?_⟩) (by rw [List.size_toArray]; exact hvl) (by show (vs.toArray.push v).size <= sizeLine + 1; rw [Array.size_push, List.size_toArray]; lia)
  exact ih (i + 1) _ (nA hk) hlt ((o.trans o3').trans out) ((hβ.trans o3'.view).trans out.view)
theorem set_len_look : typeLookup (.type "set") "__len__" = pure (some (.builtin "set.__len__")) := by rw [typeLookup_type, builtinLookup_eq_fast]; kernel_rfl
theorem set_hint {A : Around} {E : Value -> Shared -> Prop} {r : Addr} (hT : s.TypeIs (.ref r) "set") {Q : Bool -> Shared -> Prop} (h : Q false s) : wpAny c.M A (Builtin.List.listLengthHint (.ref r)) Q E s := by
 unfold Builtin.List.listLengthHint
 refine wb (wpAny_specialOf hT set_len_look ?_)
 generalize hid : ("set.__len__" : String) = id0
 wp_delta
 rw [show splitId id0 = some ("set", "__len__") from by subst hid; decide +kernel]
 subst hid
 refine wb (wpAny_isInstance (T := "set") (b := true) hT (by rw [isSubtype_type]; kernel_rfl) ?_)
 refine wpAny_ite_split (fun hab => absurd hab (by decide)) (fun _ => ?_)
 refine wpAny_ite_split (fun _ => ?_) (fun hab => absurd (by decide +kernel) hab)
 refine wb (wpAny_typeOf hT ?_)
 exact wq h
theorem collect_set {A : Around} {a : Addr} {oa : Obj} {es : Array (Int × Value)} {ep : Nat} {t : SetTable} {L : List Str} (hA : A.handled = none) (R : Rep c σ s) (hm : (a, Cell.obj oa) ∈ σ) (hS : SetO c.w L oa es ep t) (hne : 0 < es.size) (hz : es.size <= 8) :
  wpAny c.M A (collect (.ref a)) (fun vs s' => ∃ ks : List Str, ks.Perm L /\ Out c σ s σ s' /\ VRs (vw c.F σ s') (ks.map .str) vs) (fun _ _ => False) s := by
 obtain ⟨oa', hoa, rfl⟩ := R.cells (a, .obj oa) hm
 have hlt : a < s.heap.objs.size := Heap.lt_size hoa
 unfold collect
 refine wb (wpAny_runValue (codeAny_builtin entry_proto_collect' ?_))
 rw [Around.under_plainId PySem.F.plain_proto_collect _]
 show wpAny _ A.in1 (newList [] >>= fun l => again (.builtin "list.__iadd__" ⟨[l, .ref a], []⟩)) _ _ s
 refine wb (wpAny_newList ?_ (Nat.zero_le _))
 have o1 := (R.push_cell (seqObj "list" #[] 0) (.list []) ⟨[], 0, rfl, .nil⟩).perm_r (σ₂ := σ ++ [(s.heap.objs.size, .list [])]) (by
  have := List.perm_append_comm (l₁ := [(s.heap.objs.size, Cell.list [])]) (l₂ := σ)
  exact this.symm)
 have hS0 : s.heap.objs.size ≠ a := Nat.ne_of_gt hlt
 generalize hs1 : ({ s with heap := s.heap.push (seqObj "list" #[] 0) } : Shared) = s1 at o1 ⊢
 generalize s.heap.objs.size = S at o1 hS0 ⊢
 refine wq ⟨plainId_quiet PySem.F.plain_list_iadd _, codeAny_builtin entry_list_iadd' ?_⟩
 rw [Around.under_plainId PySem.F.plain_list_iadd _]
 show wpAny _ _ (Builtin.List.listExtendWith (.ref S) (.ref a) (.ref S)) _ _ s1
 unfold Builtin.List.listExtendWith
 obtain ⟨oa'', hoa1, rfl⟩ := o1.rep.cells (a, .obj oa') (memL _ hm)
 refine wb (wpAny_typeOf (T := "set") ⟨_, hoa1, hS.exact_.1⟩ ?_)
 have h1 : Builtin.List.listSameRef (.ref S) (.ref a) = false := by simp [Builtin.List.listSameRef, hS0]
 have h2 : (Value.type "set" == Value.type "list") = false := by decide
 have h3 : (Value.type "set" == Value.type "tuple") = false := by decide
 simp only [h1, h2, h3, Bool.or_false, Bool.false_eq_true, if_false]
 refine wb (wpAny_mono (iter_set (A := A.in1) o1.rep (memL _ hm) hS hne hz) (fun itv s2 hq3 => ?_) fun _ _ e => e.elim)
 obtain ⟨it, St, ks, hp, e, o2, I⟩ := hq3
 subst e
 obtain ⟨oa3, hoa2, rfl⟩ := o2.rep.cells (a, .obj oa'') (memL _ (memL _ hm))
 refine wb (wpAny_holding (set_hint (c := c) ⟨_, hoa2, hS.exact_.1⟩ ?_))
 have hkl : (ks.map PV.str).length <= sizeLine := by
  obtain ⟨ks', hp', hk'⟩ := hS.keys
  rw [lnM, hp.length_eq, <- hp'.length_eq, <- hk'.length, Array.length_toList, sizeLine_eq]; lia
 have fin : ∀ (s3 : Shared), Out c σ s (σ ++ [(S, .list [])] ++ [(it, .that (St 0))]) s3 -> VLe (vw c.F (σ ++ [(S, .list [])] ++ [(it, .that (St 0))]) s2) (vw c.F (σ ++ [(S, .list [])] ++ [(it, .that (St 0))]) s3) ->
   ∀ (Rr : Result -> Shared -> Prop), (∀ s', Out c σ s (σ ++ [(S, .list (ks.map .str))]) s' -> Rr (.ok (.ret (.ref S))) s') -> codeAny c.M A (.builtin "list.extend.loop" ⟨[.ref S, .ref it, .ref S], []⟩) Rr s3 := fun s3 o3 hβ Rr hR =>
  ext_loop (.ref S) hA hkl I (fun x => memL _ hm) hR _ 0 s3 rfl (Nat.zero_le _) o3 hβ
 have done : ∀ s', Out c σ s (σ ++ [(S, .list (ks.map .str))]) s' -> (fun r s' => match r with | .ok (.ret v) => wpAny c.M A (match v with | .ref a => (do match (<- load a).data with | .seq xs _ => pure xs.toList | _ => unsupported "internal:collect") | _ => unsupported "internal:collect") (fun vs s' => ∃ ks : List Str, ks.Perm L /\ Out c σ s σ s' /\ VRs (vw c.F σ s') (ks.map .str) vs) (fun _ _ => False) s' | _ => False) (.ok (.ret (.ref S)) : Result) s' := fun s' o' => by
  obtain ⟨x, e, vs, n, rfl, rv⟩ := o'.rep.cells (S, .list (ks.map .str)) (memR _ (.head _))
  dsimp only
  refine wb (wpAny_load e ?_)
  have od := Out.sub o'.rep (σ' := σ) (fun p hp => memL _ hp) (nodup_left o'.rep.nodup)
  exact wq ⟨ks, hp, o'.trans od, rv.mono od.view⟩
 refine wpAny_ite_split (fun _ => ?_) (fun _ => wq ⟨plainId_quiet PySem.F.plain_extend_loop _, fin _ (o1.trans o2) (.refl _) _ fun s' o' => ?_⟩)
 ·refine wb (wpAny_rule ?_)
  refine wb ?_
  show wpAny _ _ (updateSeq S (·.push .none) >>= fun _ => updateSeq S (·.pop)) _ _ _
  obtain ⟨x, e, vs, n, rfl, rv⟩ := o2.rep.cells (S, .list []) (memL _ (memR _ (.head _)))
  have e0 := rv.inv_nil
  subst e0
  refine wb (wpAny_updateSeq e rfl ?_ (Nat.zero_le _) (by simp))
  have hS2 := Heap.get?_update_self (Obj.mapSeq (·.push Value.none)) e rfl
  refine wpAny_updateSeq hS2 rfl ?_ (by seq_fits) (by seq_fits)
  have hS3 := Heap.get?_update_self (Obj.mapSeq (·.pop)) hS2 rfl
  have oz := o2.rep.upd (x' := .list []) (Up.append_right _ (Up.append _ .head)) ((Heap.SameBut.update s2.heap S (Obj.mapSeq (·.push Value.none))).trans (Heap.SameBut.update _ S (Obj.mapSeq (·.pop)))) hS3 ⟨[], _, rfl, .nil⟩ s2.toks (Nat.le_refl _)
  exact wq ⟨plainId_quiet PySem.F.plain_extend_loop _, fin _ ((o1.trans o2).trans oz) oz.view _ fun s' o' => done s' o'⟩
 ·exact done s' o'
end
section
variable {c : Cx} {env : Env} {σ σ' τ : Store} {s : Shared} {Q : PV -> Store -> Prop}
theorem VRs.ofGet {V : View} : ∀ {ps : List PV} {vs : List Value}, vs.length = ps.length -> (∀ (i : Nat) p v, ps[i]? = some p -> vs[i]? = some v -> VR V p v) -> VRs V ps vs
 | [], [], _, _ => .nil
 | p :: ps, v :: vs, hl, h => .cons (h 0 p v rfl rfl) (VRs.ofGet (by simpa using hl) fun i q w h1 h2 => h (i + 1) q w (by simpa using h1) (by simpa using h2))
 | [], _ :: _, hl, _ => by simp at hl
 | _ :: _, [], hl, _ => by simp at hl
theorem KVs.getAt {V : View} {l : List (Str × PV)} {kvs : List (Str × Value)} {i : Nat} {k k' : Str} {p : PV} {v : Value} (h : KVs V l kvs) (h1 : l[i]? = some (k, p)) (h2 : kvs[i]? = some (k', v)) : k' = k /\ VR V p v := by
 induction h generalizing i with
 | nil => cases i <;> cases h1
 | cons r t ih =>
  cases i with
  | zero => cases h1; cases h2; exact ⟨rfl, r⟩
  | succ i => exact ih h1 h2
theorem strKind_str {prog : Program} {w : World} {k : Str} {v : Value} (h : (PySem.strKind prog w).is k v = true) : ∃ t, v = .str k t := Value.isStrOf_shape h
theorem freed_of_get {h : Heap} {a : Addr} {o : Obj} (e : h.get? a = some o) : o.isFreed = false := by
 have := ((Heap.get?_eq_some _ _ _).mp e).2
 obtain ⟨cls, dict, data, slots⟩ := o
 cases data <;> first | rfl | cases this
theorem Rep.extBut {it : Addr} {x x' : Cell} {o : Obj} {h' : Heap} (R : Rep c σ s) (U : Up it x x' σ σ') (hk : ∀ b o, b ≠ it -> s.heap.get? b = some o -> h'.get? b = some o) (ho : h'.get? it = some o) (hc : CR c.prog c.w (vw c.F σ s) x' o) {tk : Nat} (ht : s.toks <= tk) :
  Out c σ s σ' { s with heap := h', toks := tk } := by
 obtain ⟨o0, e0, _⟩ := R.cells _ U.mem
 have hs := Heap.SameBut.update s.heap it (fun _ => o)
 have e1 : (s.heap.update it (fun _ => o)).get? it = some o := Heap.get?_update_self (fun _ => o) e0 (freed_of_get ho)
 have o1 := R.upd (x' := x') U hs e1 hc s.toks (Nat.le_refl _)
 have o2 := o1.rep.more (h' := h') (tk := tk) (fun b ob e => by
  by_cases hb : b = it
  ·subst hb
   rw [show (s.heap.update b fun _ => o).get? b = some o from e1] at e
   cases e
   exact ho
  ·exact hk b ob hb (by rw [<- hs.2 b hb]; exact e)) ht
 exact o1.trans o2
theorem Col.list {p : PV} {l : List PV} (h : LV c σ p l) (hz : l.length <= sizeLine) : Col c p σ (fun l' => l' = l) := fun A s v hA R hv => by
 obtain ⟨a, vs, n, rfl, e, rv⟩ := h s v R hv
 refine collect_list (seqObj_isList e) ?_ (by rw [rv.length]; exact hz)
 have keep : ∀ b o, s.heap.get? b = some o -> ((s.heap.push (seqObj "list" #[] 0)).update s.heap.objs.size (Obj.mapSeq (· ++ vs.toArray))).get? b = some o := fun b o q => by
  have hlt : b < s.heap.objs.size := Heap.lt_size q
  rw [Heap.get?_update_ne _ _ _ _ (Nat.ne_of_lt hlt)]
  exact Heap.get?_push_of_some _ q
 have out : Out c σ s σ { s with heap := (s.heap.push (seqObj "list" #[] 0)).update s.heap.objs.size (Obj.mapSeq (· ++ vs.toArray)), toks := s.toks } := R.more keep (Nat.le_refl _)
 exact ⟨l, rfl, out, rv.mono out.view⟩
theorem Col.set {a : Addr} {L : List Str} (h : (a, Cell.that (SX c.w L)) ∈ σ) (hne : L ≠ []) (hz : L.length <= 8) : Col c (.raw (.ref a)) σ (fun l => ∃ ks : List Str, ks.Perm L /\ l = ks.map .str) := fun A s v hA R hv => by
 have := hv.inv_raw
 subst this
 obtain ⟨pre, post, rfl⟩ := List.append_of_mem h
 obtain ⟨oa, hoa, hsx⟩ := R.cells _ h
 obtain ⟨es, ep, t, hS⟩ := SX.open hsx
 have hl : es.size = L.length := by
  obtain ⟨ks, hp, hk⟩ := hS.keys
  have := hk.length
  rw [Array.length_toList] at this
  rw [this, hp.length_eq]
 have o1 := R.recell (x' := .obj oa) Up.at hoa rfl
 refine wm (collect_set hA o1.rep (memR _ (.head _)) hS (by rw [hl]; exact List.length_pos_iff.mpr hne) (by lia)) (fun vs s' hq1 => ?_)
 obtain ⟨ks, hp, o2, rv⟩ := hq1
 obtain ⟨ob, hob, rfl⟩ := o2.rep.cells (a, .obj oa) (memR _ (.head _))
 have o3 := o2.rep.recell (x' := .that (SX c.w L)) Up.at hob hsx
 exact ⟨_, ⟨ks, hp, rfl⟩, (o1.trans o2).trans o3, rv.mono o3.view⟩
noncomputable abbrev viewO (d : Addr) : Obj := { cls := .type "dict_items", data := .fields #[.ref d] }
noncomputable def pairOf (x : Str × PV) : PV := .tup [.str x.1, x.2]
theorem items_loop {A : Around} {S it d ep : Nat} {l : List (Str × PV)} {kvs : List (Str × Value)} {R : Result -> Shared -> Prop} {σ₀ : Store} {s₀ : Shared} (res : Value) (hA : A.handled = none) (hl : l.length <= sizeLine) (hkl : kvs.length = l.length) (hSi : S ≠ it) (hdi : d ≠ it) (hdS : d ≠ S) (hdm : (d, Cell.dict l) ∈ σ)
  (hR : ∀ s', Out c σ₀ s₀ (σ ++ [(S, .list (l.map pairOf))]) s' -> R (.ok (.ret res)) s') :
  ∀ (k i : Nat) (s : Shared), l.length - i = k -> i <= l.length -> Out c σ₀ s₀ (σ ++ [(S, .list ((l.take i).map pairOf))] ++ [(it, .that fun _ => True)]) s -> s.heap.DictAt (PySem.strKind c.prog c.w) d kvs ep -> KVs (vw c.F (σ ++ [(S, .list ((l.take i).map pairOf))] ++ [(it, .that fun _ => True)]) s) l kvs -> KdxSt s.heap it d S i kvs.length ep ->
   codeAny c.M A (.builtin "list.extend.loop" ⟨[.ref S, .ref it, res], []⟩) R s := by
 intro k
 induction k with
 | zero =>
  intro i s hk hi o hD hkv hst
  have hin : i = l.length := nC hk hi
  subst hin
  refine codeAny_builtin PySem.F.entry_extend_loop ?_
  rw [Around.under_plainId PySem.F.plain_extend_loop _]
  show wpAny _ A.in1 (pyNext (.ref it) >>= _) _ _ _
  refine wb (kdx_done (A := A.in1) hA hst hD (List.getElem?_eq_none (by lia)) fun h' he => ?_)
  refine wq (hR _ ?_)
  rw [List.take_length] at o
  exact o.trans (o.rep.grow (τ := [_]) (fun b ob hb eo => he b ob (by simpa [addrs] using hb) eo) (Nat.le_refl _))
 | succ k ih =>
  intro i s hk hi o hD hkv hst
  have hlt : i < l.length := nB hk
  obtain ⟨⟨q, p⟩, hq⟩ : ∃ x, l[i]? = some x := ⟨_, List.getElem?_eq_getElem hlt⟩
  obtain ⟨⟨q', v⟩, hx⟩ : ∃ x, kvs[i]? = some x := ⟨_, List.getElem?_eq_getElem (by lia)⟩
  obtain ⟨rfl, rv⟩ := hkv.getAt hq hx
  have hSm : S < s.heap.objs.size := o.rep.lt (List.mem_map_of_mem (f := Prod.fst) (memL _ (memR _ (.head _))))
  refine codeAny_builtin PySem.F.entry_extend_loop ?_
  rw [Around.under_plainId PySem.F.plain_extend_loop _]
  show wpAny _ A.in1 (pyNext (.ref it) >>= _) _ _ _
  refine wb (kdx_item (A := A.in1) hst hSm hD hx fun key h' hkey hst' htup hsz hkeep => ?_)
  obtain ⟨tk, rfl⟩ := strKind_str hkey
  obtain ⟨oi, hoi⟩ : ∃ oi, h'.get? it = some oi := by
   rcases hst' with ⟨e0, _⟩ | ⟨_, _, _, _, _, e, _⟩
   ·lia
   ·exact ⟨_, e⟩
  have o1 := o.rep.extBut (x' := .that fun _ => True) (h' := h') (tk := s.toks) (Up.append _ .head) hkeep hoi trivial (Nat.le_refl _)
  have n1 : s.heap.objs.size ∉ c.F := fun h => Nat.lt_irrefl _ (o.rep.ltF h)
  have n2 : s.heap.objs.size ∉ addrs (σ ++ [(S, .list ((l.take i).map pairOf))] ++ [(it, .that fun _ => True)]) := fun h => Nat.lt_irrefl _ (o.rep.lt h)
  have rp : VR (vw c.F (σ ++ [(S, .list ((l.take i).map pairOf))] ++ [(it, .that fun _ => True)]) { s with heap := h', toks := s.toks }) (pairOf (q', p)) (.ref s.heap.objs.size) :=
   .tup (vs := [.str q' tk, v]) (n := 0) (vw_some.mpr ⟨n1, n2, htup⟩) (.cons (.str _ _) (.cons (rv.mono o1.view) .nil))
  have U : Up S (.list ((l.take i).map pairOf)) (.list ((l.take (i + 1)).map pairOf)) (σ ++ [(S, .list ((l.take i).map pairOf))] ++ [(it, .that fun _ => True)]) (σ ++ [(S, .list ((l.take (i + 1)).map pairOf))] ++ [(it, .that fun _ => True)]) := Up.append_right _ (Up.append _ .head)
  obtain ⟨ob, e, vs, n, rfl, rvs⟩ := o1.rep.cells _ U.mem
  have e2 := IsL.update (h := h') e (fun x => x.push (Value.ref s.heap.objs.size))
  rw [show vs.toArray.push (Value.ref s.heap.objs.size) = (vs ++ [Value.ref s.heap.objs.size]).toArray by simp] at e2
  have hvl : vs.length <= sizeLine := by rw [rvs.length, lnM, List.length_take]; lia
  have hti : (l.take (i + 1)).map pairOf = (l.take i).map pairOf ++ [pairOf (q', p)] := by rw [List.take_add_one, hq, List.map_append]; rfl
  have hsb := Heap.SameBut.update h' S (Obj.mapSeq fun x => x.push (Value.ref s.heap.objs.size))
  have out := o1.rep.upd (x' := .list ((l.take (i + 1)).map pairOf)) U hsb e2 ⟨vs ++ [Value.ref s.heap.objs.size], _, rfl, by rw [hti]; exact rvs.append (.cons rp .nil)⟩ s.toks (Nat.le_refl _)
  dsimp only
  refine wb ?_
  show wpAny _ A.in1 (updateSeq S (·.push (Value.ref s.heap.objs.size))) _ _ _
  refine wpAny_updateSeq (s := { s with heap := h' }) e rfl (wq ⟨plainId_quiet PySem.F.plain_extend_loop _, ?_⟩) (by rw [List.size_toArray]; exact hvl) (by show (vs.toArray.push _).size <= sizeLine + 1; rw [Array.size_push, List.size_toArray]; lia)
  have upS : ∀ b o, b ≠ S -> h'.get? b = some o -> (h'.update S (Obj.mapSeq fun x => x.push (Value.ref s.heap.objs.size))).get? b = some o := fun b o hb e => by rw [hsb.2 b hb]; exact e
  exact ih (i + 1) _ (nA hk) hlt ((o.trans o1).trans out) (hD.at' fun o e => upS d o hdS (hkeep d o hdi e)) (hkv.mono (o1.view.trans out.view)) (hst'.keep upS hSi.symm)
theorem Col.items {v d : Addr} {l : List (Str × PV)} (hv : (v, Cell.obj (viewO d)) ∈ σ) (hd : (d, Cell.dict l) ∈ σ) (hz : l.length <= sizeLine) : Col c (.raw (.ref v)) σ (fun l' => l' = l.map pairOf) := fun A s va hA R hva => by
 have := hva.inv_raw
 subst this
 obtain ⟨ov, hov, rfl⟩ := R.cells _ hv
 have hlt : v < s.heap.objs.size := Heap.lt_size hov
 have hltd : d < s.heap.objs.size := R.lt (List.mem_map_of_mem (f := Prod.fst) hd)
 unfold collect
 refine wb (wpAny_runValue (codeAny_builtin entry_proto_collect' ?_))
 rw [Around.under_plainId PySem.F.plain_proto_collect _]
 show wpAny _ A.in1 (newList [] >>= fun l => again (.builtin "list.__iadd__" ⟨[l, .ref v], []⟩)) _ _ s
 refine wb (wpAny_newList ?_ (Nat.zero_le _))
 have o1 := (R.push_cell (seqObj "list" #[] 0) (.list []) ⟨[], 0, rfl, .nil⟩).perm_r (σ₂ := σ ++ [(s.heap.objs.size, .list [])]) (by
  have := List.perm_append_comm (l₁ := [(s.heap.objs.size, Cell.list [])]) (l₂ := σ)
  exact this.symm)
 have hS0 : s.heap.objs.size ≠ v := Nat.ne_of_gt hlt
 have hSd : d ≠ s.heap.objs.size := Nat.ne_of_lt hltd
 generalize hs1 : ({ s with heap := s.heap.push (seqObj "list" #[] 0) } : Shared) = s1 at o1 ⊢
 generalize s.heap.objs.size = S at o1 hS0 hSd ⊢
 refine wq ⟨plainId_quiet PySem.F.plain_list_iadd _, codeAny_builtin entry_list_iadd' ?_⟩
 rw [Around.under_plainId PySem.F.plain_list_iadd _]
 show wpAny _ _ (Builtin.List.listExtendWith (.ref S) (.ref v) (.ref S)) _ _ s1
 unfold Builtin.List.listExtendWith
 obtain ⟨ov1, hov1, rfl⟩ := o1.rep.cells (v, .obj (viewO d)) (memL _ hv)
 refine wb (wpAny_typeOf (T := "dict_items") ⟨_, hov1, rfl⟩ ?_)
 have h1 : Builtin.List.listSameRef (.ref S) (.ref v) = false := by simp [Builtin.List.listSameRef, hS0]
 have h2 : (Value.type "dict_items" == Value.type "list") = false := by decide
 have h3 : (Value.type "dict_items" == Value.type "tuple") = false := by decide
 simp only [h1, h2, h3, Bool.or_false, Bool.false_eq_true, if_false]
 obtain ⟨kvs, hm, hk⟩ := o1.rep.dictAt (memL _ hd)
 obtain ⟨ep, hm'⟩ := hm.dictAt
 have hkl := hk.length
 refine wb (wpAny_pyIter_items ⟨_, hov1, rfl, rfl⟩ hm' ?_)
 have o2 := o1.rep.newLast { cls := .type "dict_itemiterator", data := .fields #[.none, .bool false, .ref d, .int 0 0, .int kvs.length 0, .int ep 0, .none, .none] } (fun _ => True) trivial
 have hIS : S ≠ s1.heap.objs.size := Nat.ne_of_lt (o1.rep.lt (List.mem_map_of_mem (f := Prod.fst) (memR _ (.head _) : (S, Cell.list []) ∈ σ ++ [(S, .list [])])))
 have hId : d ≠ s1.heap.objs.size := Nat.ne_of_lt (o1.rep.lt (List.mem_map_of_mem (f := Prod.fst) (memL _ hd)))
 refine wb (wpAny_holding (kdx_hint ⟨_, Heap.get?_push_of_some _ hov1, rfl⟩ ?_))
 have fin : ∀ (s3 : Shared), Out c (σ ++ [(S, .list [])]) s1 (σ ++ [(S, .list [])] ++ [(s1.heap.objs.size, .that fun _ => True)]) s3 -> s3.heap.DictAt (PySem.strKind c.prog c.w) d kvs ep -> s3.heap.get? s1.heap.objs.size = some { cls := .type "dict_itemiterator", data := .fields #[.none, .bool false, .ref d, .int 0 0, .int kvs.length 0, .int ep 0, .none, .none] } ->
   ∀ (Rr : Result -> Shared -> Prop), (∀ s', Out c σ s (σ ++ [(S, .list (l.map pairOf))]) s' -> Rr (.ok (.ret (.ref S))) s') -> codeAny c.M A (.builtin "list.extend.loop" ⟨[.ref S, .ref s1.heap.objs.size, .ref S], []⟩) Rr s3 := fun s3 o3 hD3 hI3 Rr hR =>
  items_loop (ep := ep) (.ref S) hA hz hkl hIS hId hSd hd hR _ 0 s3 rfl (Nat.zero_le _) (o1.trans o3) hD3 (hk.mono o3.view) (.inl ⟨rfl, .none, .none, hI3⟩)
 have done : ∀ s', Out c σ s (σ ++ [(S, .list (l.map pairOf))]) s' -> (fun r s' => match r with | .ok (.ret v) => wpAny c.M A (match v with | .ref a => (do match (<- load a).data with | .seq xs _ => pure xs.toList | _ => unsupported "internal:collect") | _ => unsupported "internal:collect") (fun vs s' => ∃ l', l' = l.map pairOf /\ Out c σ s σ s' /\ VRs (vw c.F σ s') l' vs) (fun _ _ => False) s' | _ => False) (.ok (.ret (.ref S)) : Result) s' := fun s' o' => by
  obtain ⟨x, e, vs, n, rfl, rv⟩ := o'.rep.cells (S, .list (l.map pairOf)) (memR _ (.head _))
  dsimp only
  refine wb (wpAny_load e ?_)
  have od := Out.sub o'.rep (σ' := σ) (fun p hp => memL _ hp) (nodup_left o'.rep.nodup)
  exact wq ⟨_, rfl, o'.trans od, rv.mono od.view⟩
 refine wpAny_ite_split (fun _ => ?_) (fun _ => wq ⟨plainId_quiet PySem.F.plain_extend_loop _, fin _ o2 (hm'.push _) (Heap.get?_push_size _ rfl) _ fun s' o' => done s' o'⟩)
 refine wb (wpAny_rule ?_)
 refine wb ?_
 show wpAny _ _ (updateSeq S (·.push .none) >>= fun _ => updateSeq S (·.pop)) _ _ _
 obtain ⟨x, e, vs, n, rfl, rv⟩ := o2.rep.cells (S, .list []) (memL _ (memR _ (.head _)))
 have e0 := rv.inv_nil
 subst e0
 refine wb (wpAny_updateSeq e rfl ?_ (Nat.zero_le _) (by simp))
 have hS2 := Heap.get?_update_self (Obj.mapSeq (·.push Value.none)) e rfl
 refine wpAny_updateSeq hS2 rfl ?_ (by seq_fits) (by seq_fits)
 have hS3 := Heap.get?_update_self (Obj.mapSeq (·.pop)) hS2 rfl
 have sb := (Heap.SameBut.update (s1.heap.push { cls := .type "dict_itemiterator", data := .fields #[.none, .bool false, .ref d, .int 0 0, .int kvs.length 0, .int ep 0, .none, .none] }) S (Obj.mapSeq (·.push Value.none))).trans (Heap.SameBut.update _ S (Obj.mapSeq (·.pop)))
 have oz := o2.rep.upd (x' := .list []) (Up.append_right _ (Up.append _ .head)) sb hS3 ⟨[], _, rfl, .nil⟩ s1.toks (Nat.le_refl _)
 exact wq ⟨plainId_quiet PySem.F.plain_extend_loop _, fin _ (o2.trans oz) ((hm'.push _).at' fun o e => by rw [sb.2 d hSd]; exact e) (by rw [sb.2 _ hIS.symm]; exact Heap.get?_push_size _ rfl) _ fun s' o' => done s' o'⟩
structure Sorts (c : Cx) (l : List PV) (Pp : List Nat -> Prop) : Prop where
 len : l.length <= 4
 ok : ∃ κ r, (2 <= l.length -> KKd c κ l) /\ (∀ (i j : Nat) p q, l[i]? = some p -> l[j]? = some q -> i ≠ j -> KLt c κ p q (r i j)) /\ Srt l.length r (fun p => Pp p /\ p.Perm (List.range l.length))
noncomputable def srtL (l : List (Str × Str)) : List (Str × Str) := pick l (srtP l.length fun i j => pLt (l.getD i ("", "")) (l.getD j ("", "")))
theorem Sorts.pairs {l : List (Str × Str)} (h : l.length <= 4) : Sorts c (l.map pp) (fun p => p = srtP l.length fun i j => pLt (l.getD i ("", "")) (l.getD j ("", ""))) := by
 refine ⟨by rw [lnM]; exact h, tuples' true, fun i j b => b = pLt (l.getD i ("", "")) (l.getD j ("", "")), fun h2 => KKd.pairs (by rw [lnM] at h2; lia), fun i j p q hi hj _ => ?_, ?_⟩
 ·rw [List.getElem?_map] at hi hj
  obtain ⟨x, hx, rfl⟩ := Option.map_eq_some_iff.mp hi
  obtain ⟨y, hy, rfl⟩ := Option.map_eq_some_iff.mp hj
  have := KLt.pairs (c := c) (x := x) (y := y) rfl
  show KLt c (tuples' true) (pp x) (pp y) (fun b => b = pLt (l.getD i ("", "")) (l.getD j ("", "")))
  rw [List.getD_eq_getElem?_getD, List.getD_eq_getElem?_getD, hx, hy]
  exact this
 ·rw [lnM]
  exact Srt.ev h _
theorem pick_map {α β : Type} (f : α -> β) (l : List α) (p : List Nat) : pick (l.map f) p = (pick l p).map f := by
 unfold pick
 induction p with
 | nil => rfl
 | cons i p ih =>
  rw [List.filterMap_cons, List.filterMap_cons, List.getElem?_map, ih]
  cases l[i]? <;> rfl
theorem Ca.sorted {p : PV} {P : List PV -> Prop} {Pp : List PV -> List Nat -> Prop} (hu : c.u < 8000) (hcol : Col c p σ P) (hP : ∀ l, P l -> Sorts c l (Pp l)) (h : ∀ l pm, P l -> Pp l pm -> pm.Perm (List.range l.length) -> Q (.lst (pick l pm)) σ) : Ca c (.builtin "sorted") [p] σ Q := fun V vs hv A s hA R hV => by
 obtain ⟨v, _, rfl, rv, hv'⟩ := hv.inv_cons
 have e0 := hv'.inv_nil
 subst e0
 have hu' : A.units < 8000 := Nat.lt_of_le_of_lt hA.units hu
 refine Calls.call_function_entry kind_sorted plain_sorted entry_sorted (args_sorted1 _) ?_
 unfold Builtin.«sorted»
 refine wpAny_bind (m := checkCount "sorted" 1 1 _) (wq ?_)
 refine wb (wpAny_mono (hcol A.in1 s v hA.handled R (rv.mono hV)) (fun vs s1 hq1 => ?_) fun _ _ e => e.elim)
 obtain ⟨l, hl, o1, rv⟩ := hq1
 obtain ⟨hl4, κ, r, hk, hc, hS⟩ := hP l hl
 refine wb (wpAny_newList ?_ (by rw [rv.length, sizeLine_eq]; lia))
 have o2 := (o1.rep.push_cell (seqObj "list" vs.toArray 0) (.list l) ⟨vs, 0, rfl, rv⟩).perm_r (σ₂ := σ ++ [(s1.heap.objs.size, .list l)]) (by
  have := List.perm_append_comm (l₁ := [(s1.heap.objs.size, Cell.list l)]) (l₂ := σ)
  exact this.symm)
 obtain ⟨x, e, vs', n, rfl, rv'⟩ := o2.rep.cells (s1.heap.objs.size, .list l) (memR _ (.head _))
 have run := sort_list (c := c) (s := { s1 with heap := s1.heap.push (seqObj "list" vs.toArray 0) }) (A := A.in1.in1) (post := []) (P := Pp l) hA.handled (by show A.units + 1 + 1 < 9000; lia) o2.rep hl4 hk hc hS
 refine wb (wpAny_holding (wpAny_call_entry slot_list_sort ⟨_, e, rfl⟩ entry_list_sort (wm run (fun fi s2 ⟨efi, pp, h1, h2, o3⟩ => ?_)) (args_list_sort _)))
 subst efi
 obtain ⟨o4, r4⟩ := ((o1.trans o2).trans o3).freeze
 exact ⟨_, rfl, wq ⟨_, rfl, σ, o4, _, r4, h l pp hl h1 h2⟩⟩
theorem Gm.sort {a : Addr} {l : List PV} {pl : Sem Bool} {K : Value -> List PV -> Store -> Prop} (hm : (a, Cell.list l) ∈ σ) (h : K (.builtin "list.sort") [.raw (.ref a)] σ) : Gm c (.raw (.ref a)) "sort" pl σ K :=
 Gm.builtin (HasT.list hm) F.plainAttrs_list slot_list_sort (by kernel_rfl) h
theorem Ca.sort {a : Addr} {l : List PV} {pre post : Store} {Pp : List Nat -> Prop} (hu : c.u < 8000) (hs : Sorts c l Pp) (h : ∀ pm, Pp pm -> pm.Perm (List.range l.length) -> Q .none (pre ++ (a, .list (pick l pm)) :: post)) : Ca c (.builtin "list.sort") [.raw (.ref a)] (pre ++ (a, .list l) :: post) Q := fun V vs hv A s hA R hV => by
 obtain ⟨v, _, rfl, rv, hv'⟩ := hv.inv_cons
 have e0 := hv'.inv_nil
 subst e0
 have := rv.inv_raw
 subst this
 have hu' : A.units < 8000 := Nat.lt_of_le_of_lt hA.units hu
 obtain ⟨hl4, κ, r, hk, hc, hS⟩ := hs
 obtain ⟨x, e, vs', n, rfl, rv'⟩ := R.cells (a, .list l) (memR _ (.head _))
 have run := sort_list (c := c) (s := s) (A := A.in1) (pre := pre) (post := post) (P := Pp) hA.handled (by show A.units + 1 < 9000; lia) R hl4 hk hc hS
 refine wpAny_call_entry slot_list_sort ⟨_, e, rfl⟩ entry_list_sort (wm run (fun fi s2 ⟨efi, pm, h1, h2, o3⟩ => ?_)) (args_list_sort _)
 exact ⟨_, efi, _, o3, _, .none, h pm h1 h2⟩
theorem Gm.items {a : Addr} {l : List (Str × PV)} {pl : Sem Bool} {K : Value -> List PV -> Store -> Prop} (hm : (a, Cell.dict l) ∈ σ) (h : K (.builtin "dict.items") [.raw (.ref a)] σ) : Gm c (.raw (.ref a)) "items" pl σ K :=
 Gm.builtin (HasT.dict hm) F.plainAttrs_dict F.slot_dict_items F.type_dict_items h
theorem Ca.items {a : Addr} {l : List (Str × PV)} (hm : (a, Cell.dict l) ∈ σ) (h : ∀ v, Q (.raw (.ref v)) (σ ++ [(v, .obj (viewO a))])) : Ca c (.builtin "dict.items") [.raw (.ref a)] σ Q := fun V vs hv A s hA R hV => by
 obtain ⟨v, _, rfl, rv, hv'⟩ := hv.inv_cons
 have e0 := hv'.inv_nil
 subst e0
 have := rv.inv_raw
 subst this
 obtain ⟨kvs, hd, hk⟩ := R.dictAt hm
 refine call_meetsIn F.slot_dict_items hd.typeIs F.entry_dict_items (F.args_dict_items_1 _) (meets_dict_items (PySem.strKind c.prog c.w) a (R.sysne hm)) ⟨⟨_, hd⟩, ?_⟩
 have o := (R.push_cell (viewO a) (.obj (viewO a)) rfl).perm_r (σ₂ := σ ++ [(s.heap.objs.size, .obj (viewO a))]) (by
  have := List.perm_append_comm (l₁ := [(s.heap.objs.size, Cell.obj (viewO a))]) (l₂ := σ)
  exact this.symm)
 exact ⟨_, o, _, .raw _, h _⟩
theorem E.post {e : PySem.Expr} (h : E c env e σ (fun p σ' => ∃ σ'' : Store, σ''.Sublist σ' /\ Q p σ'')) : E c env e σ Q := fun V A s hA R hV =>
 W.onr (h V) hA R hV (fun v s' σ' o p r hq4 => by
  obtain ⟨σ'', hs, q⟩ := hq4
  have od := Out.sub o.rep (fun p hp => hs.subset hp) (o.rep.nodup.sublist (hs.map Prod.fst))
  exact ⟨σ'', o.trans od, p, r.mono od.view, q⟩)
theorem Gm.get {a : Addr} {l : List (Str × PV)} {pl : Sem Bool} {K : Value -> List PV -> Store -> Prop} (hm : (a, Cell.dict l) ∈ σ) (h : K (.builtin "dict.get") [.raw (.ref a)] σ) : Gm c (.raw (.ref a)) "get" pl σ K :=
 Gm.builtin (HasT.dict hm) F.plainAttrs_dict F.slot_dict_get F.type_dict_get h
theorem Ca.get {a : Addr} {l : List (Str × PV)} {k : Str} (hm : (a, Cell.dict l) ∈ σ) (h : Q ((l.lookup k).getD .none) σ) : Ca c (.builtin "dict.get") [.raw (.ref a), .str k] σ Q := fun V vs hv A s hA R hV => by
 obtain ⟨v, _, rfl, rv, hv'⟩ := hv.inv_cons
 obtain ⟨v2, _, rfl, rv2, hv2⟩ := hv'.inv_cons
 have e0 := hv2.inv_nil
 subst e0
 have := rv.inv_raw
 subst this
 obtain ⟨t, rfl⟩ := rv2.inv_str
 obtain ⟨kvs, hd, hk⟩ := R.dictAt hm
 refine call_meetsIn F.slot_dict_get hd.typeIs F.entry_dict_get (F.args_dict_get_2 _ _) (meets_dict_get (PySem.strKind c.prog c.w) a (strKind_is _ _ _ _) (R.sysne hm)) ⟨_, hd.mapOf, ?_⟩
 rcases hk.at (k := k) with ⟨e1, e2⟩ | ⟨p, v, e1, e2, r⟩
 ·rw [e1] at h
  show Ends _ _ _ _ _
  rw [e2]
  exact ret_toks R (Nat.le_succ _) .none h
 ·rw [e1] at h
  show Ends _ _ _ _ _
  rw [e2]
  exact ret_toks R (Nat.le_succ _) (r.mono (view_toks (Nat.le_succ _))) h
end
noncomputable def ins (L : List Str) (k : Str) : List Str := if k ∈ L then L else L ++ [k]
theorem ins_len (L : List Str) (k : Str) : (ins L k).length <= L.length + 1 := by unfold ins; split <;> simp
theorem ins_ne {L : List Str} {k : Str} : ins L k ≠ [] := by
 unfold ins
 split
 ·rename_i h
  intro e
  rw [e] at h
  cases h
 ·simp
section
variable {c : Cx} {env : Env} {σ σ' τ : Store} {s : Shared} {Q : PV -> Store -> Prop}
noncomputable def SX0 (w : World) (o : Obj) : Prop := ∃ led, o = { cls := .type "set", dict := none, data := .set #[] 0 (.fresh 0 0 led), slots := #[] } /\ (w.params.followText "set-order" = false -> led = true)
theorem sx_put {A : Around} {E : Value -> Shared -> Prop} {a : Addr} {L : List Str} {k : Str} {tk : Tok} (R : Rep c σ s) (U : Up a (.that (SX c.w L)) (.that (SX c.w (ins L k))) σ σ') (hne : L ≠ []) (hz : L.length <= 8) :
  wpAny c.M A (setAddHashed a (.str k tk) (hashStr c.w k)) (fun _ s' => Out c σ s σ' s') E s := by
 obtain ⟨o, ho, hex, es, ep, t, hd, hf, hp, ⟨ks, hkp, hks⟩, h1⟩ := R.cells _ U.mem
 have hl : es.size = L.length := by rw [<- Array.length_toList, hks.length, hkp.length_eq]
 refine sx_add_core (ks := ks) (k := k) ho hd hf hks (by unfold scanBound; lia) (fun hm => ?_) fun hm h' es2 ep2 t3 hsb hg hperm hf3 hp3 _ => ?_
 ·have e : ins L k = L := by unfold ins; rw [if_pos (hkp.mem_iff.mp hm)]
  refine R.recell U ho ?_
  show SX c.w (ins L k) o
  rw [e]
  exact ⟨hex, es, ep, t, hd, hf, hp, ⟨ks, hkp, hks⟩, h1⟩
 ·have e : ins L k = L ++ [k] := by unfold ins; rw [if_neg fun q => hm (hkp.mem_iff.mpr q)]
  obtain ⟨ks', hp', hk'⟩ := (hks.append (k := k) (t := tk)).perm hperm.symm
  refine R.upd (h' := h') U hsb hg ?_ s.toks (Nat.le_refl _)
  show SX c.w (ins L k) _
  rw [e]
  refine ⟨hex, es2, ep2, t3, rfl, hf3, hp3, ⟨ks', hp'.trans (hkp.append_right [k]), hk'⟩, fun h => ?_⟩
  have := hperm.length_eq
  rw [List.length_append, Array.length_toList, Array.length_toList] at this
  simp at this
  have := List.length_pos_iff.mpr hne
  lia
theorem sx_first {A : Around} {E : Value -> Shared -> Prop} {a : Addr} {k : Str} {tk : Tok} (R : Rep c σ s) (U : Up a (.that (SX0 c.w)) (.that (SX c.w [k])) σ σ') :
  wpAny c.M A (setAddHashed a (.str k tk) (hashStr c.w k)) (fun _ s' => Out c σ s σ' s') E s := by
 obtain ⟨o, ho, led, rfl, hled⟩ := R.cells _ U.mem
 refine sx_add_core (ks := []) (k := k) ho rfl rfl .nil (by decide) (fun hm => by cases hm) fun hm h' es2 ep2 t3 hsb hg hperm hf3 hp3 h1 => ?_
 obtain ⟨j, hj⟩ := h1 rfl led rfl
 refine R.upd (h' := h') U hsb hg ?_ s.toks (Nat.le_refl _)
 obtain ⟨ks', hp', hk'⟩ := (SE.cons (k := k) (t := tk) SE.nil).perm hperm.symm
 exact ⟨⟨rfl, rfl, rfl⟩, es2, ep2, t3, rfl, hf3, hp3, ⟨ks', hp', hk'⟩, fun _ => ⟨led, j, hj, hled⟩⟩
theorem setAdd_str {A : Around} {E : Value -> Shared -> Prop} {a : Addr} {k : Str} {tk : Tok} {Q : Bool -> Shared -> Prop} (h : wpAny c.M A (setAddHashed a (.str k tk) (hashStr c.w k)) Q E { s with toks := s.toks + 1 }) : wpAny c.M A (setAdd a (.str k tk)) Q E s := by
 unfold setAdd
 refine wpAny_holding (wb ((PySem.strKind c.prog c.w).pyHash (strKind_is _ _ _ _) ?_))
 exact h
theorem room_one {A : Around} {E : Value -> Shared -> Prop} {a : Addr} {k : Str} {n : Nat} {Q : Unit -> Shared -> Prop} (R : Rep c σ s) (hm : (a, Cell.that (SX c.w [k])) ∈ σ) (hn : n <= 3) (h : Q () s) : wpAny c.M A (setRoomFor a n) Q E s := by
 obtain ⟨o, ho, hex, es, ep, t, hd, hf, hp, ⟨ks, hkp, hks⟩, h1⟩ := R.cells _ hm
 have hl : es.size = 1 := by rw [<- Array.length_toList, hks.length, hkp.length_eq]; rfl
 obtain ⟨led, j, rfl, _⟩ := h1 hl
 unfold setRoomFor
 refine wb (wpAny_setState_of ho hd hf ?_)
 have e : SetTable.roomFor { T1 led j with plain := false } n = none := by
  have : n = 0 \/ n = 1 \/ n = 2 \/ n = 3 := by lia
  rcases this with rfl | rfl | rfl | rfl <;> rfl
 dsimp only
 rw [e]
 exact wq h
noncomputable def insAll (L : List Str) (l : List (Str × PV)) : List Str := l.foldl (fun L x => ins L x.1) L
theorem insAll_len (L : List Str) : ∀ l : List (Str × PV), (insAll L l).length <= L.length + l.length := by
 intro l
 induction l generalizing L with
 | nil => exact Nat.le_refl _
 | cons x l ih =>
  have := ih (ins L x.1)
  have h2 := ins_len L x.1
  show (insAll (ins L x.1) l).length <= _
  rw [List.length_cons]; lia
theorem insAll_take {L : List Str} {l : List (Str × PV)} {i : Nat} {x : Str × PV} (h : l[i]? = some x) : insAll L (l.take (i + 1)) = ins (insAll L (l.take i)) x.1 := by
 unfold insAll
 rw [List.take_add_one, h, List.foldl_append]
 rfl
theorem insAll_ne {L : List Str} (h : L ≠ []) : ∀ l : List (Str × PV), insAll L l ≠ [] := by
 intro l
 induction l generalizing L with
 | nil => exact h
 | cons x l ih => exact ih ins_ne
theorem dict_at {kvs : List (Str × Value)} {i : Nat} {k : Str} {v : Value} {es : Array DictEntry} (hk : KeysOf (PySem.strKind c.prog c.w) es) (hp : Pairs (PySem.strKind c.prog c.w) es.toList kvs) (hx : kvs[i]? = some (k, v)) : ∃ t, es[i]? = some ⟨hashStr c.w k, .str k t, v⟩ := by
 have hl := hp.length
 have hi : i < es.size := by
  have := (List.getElem?_eq_some_iff.mp hx).1
  rw [Array.length_toList] at hl
  lia
 have he : es.toList[i]? = some es[i] := by simp [hi]
 obtain ⟨h1, h2⟩ := hp.get? he hx
 obtain ⟨k', h3, h4⟩ := hk es[i] (Array.getElem_mem hi)
 obtain ⟨t, ht⟩ := strKind_str h1
 have : k' = k := (PySem.strKind c.prog c.w).inj _ _ _ h3 h1
 subst this
 refine ⟨t, ?_⟩
 rw [Array.getElem?_eq_getElem hi]
 congr 1
 cases hes : es[i] with
 | mk a b d =>
  rw [hes] at h4 ht h2
  simp only at h4 ht h2
  rw [h4, ht, h2]
  rfl
theorem star_range {A : Around} {E : Value -> Shared -> Prop} {a : Addr} {l : List (Str × PV)} {L : List Str} {post : Store} {f : Nat -> PUnit -> Sem (ForInStep PUnit)}
  (hf : ∀ i (s : Shared) x, l[i]? = some x -> ∀ (Qf : Shared -> Prop), Rep c ((a, .that (SX c.w (insAll L (l.take i)))) :: post) s -> (∀ s', Out c ((a, .that (SX c.w (insAll L (l.take i)))) :: post) s ((a, .that (SX c.w (ins (insAll L (l.take i)) x.1))) :: post) s' -> Qf s') -> wpAny c.M A (f i ⟨⟩) (fun r s' => r = .yield ⟨⟩ /\ Qf s') E s) :
  ∀ (m i : Nat) (s : Shared) (Q : PUnit -> Shared -> Prop), i + m = l.length -> Rep c ((a, .that (SX c.w (insAll L (l.take i)))) :: post) s -> (∀ s', Out c ((a, .that (SX c.w (insAll L (l.take i)))) :: post) s ((a, .that (SX c.w (insAll L l))) :: post) s' -> Q ⟨⟩ s') ->
   wpAny c.M A (forIn (List.range' i m) ⟨⟩ f) Q E s := by
 intro m
 induction m with
 | zero =>
  intro i s Q hi R hQ
  rw [show l.take i = l from List.take_of_length_le (by lia)] at R hQ
  exact wq (hQ s (.refl R))
 | succ m ih =>
  intro i s Q hi R hQ
  obtain ⟨x, hx⟩ : ∃ x, l[i]? = some x := ⟨_, List.getElem?_eq_getElem (by lia)⟩
  rw [List.range'_succ, List.forIn_cons]
  refine wb (wm (hf i s x hx (fun s' => Out c ((a, .that (SX c.w (insAll L (l.take i)))) :: post) s ((a, .that (SX c.w (ins (insAll L (l.take i)) x.1))) :: post) s') R fun s' o => o) (fun r s' hq1 => ?_))
  obtain ⟨e, o⟩ := hq1
  subst e
  rw [<- insAll_take hx] at o
  exact ih (i + 1) s' Q (by lia) o.rep fun s'' o' => hQ s'' (o.trans o')
theorem Rep.dictIs (R : Rep c σ s) {d : Addr} {l : List (Str × PV)} (h : (d, Cell.dict l) ∈ σ) : s.TypeIs (.ref d) "dict" := by
 obtain ⟨kvs, hm, _⟩ := R.dictAt h
 exact hm.typeIs
noncomputable def KeyIt (d n ep i : Nat) (o : Obj) : Prop := o.cls = .type "dict_keyiterator" /\ o.data = .fields #[.ref d, .int i 0, .int n 0, .int ep 0]
theorem update_loop {A : Around} {a d it ep : Nat} {od : Obj} {es : Array DictEntry} {l : List (Str × PV)} {kvs : List (Str × Value)} {L : List Str} {post : Store} {Rr : Result -> Shared -> Prop} {σ₀ : Store} {s₀ : Shared} (hA : A.handled = none) (hd : (d, Cell.obj od) ∈ post) (hDA : od.ExactDict /\ od.data = .dict es ep /\ KeysOf (PySem.strKind c.prog c.w) es /\ Pairs (PySem.strKind c.prog c.w) es.toList kvs /\ (kvs.map (·.1)).Nodup)
  (hz : L.length + l.length <= 8) (hL : L ≠ []) (hkl : kvs.map (·.1) = l.map (·.1))
  (hR : ∀ s', Out c σ₀ s₀ ((a, .that (SX c.w (insAll L l))) :: post) s' -> Rr (.ok (.ret .none)) s') :
  ∀ (m i : Nat) (s : Shared), i + m = l.length -> Out c σ₀ s₀ (((a, .that (SX c.w (insAll L (l.take i)))) :: post) ++ [(it, .that (KeyIt d kvs.length ep i))]) s ->
   codeAny c.M A (.builtin "set.update.loop" ⟨[.ref a, .ref it], []⟩) Rr s := by
 have hkl' : kvs.length = l.length := by have := congrArg List.length hkl; simpa using this
 intro m
 induction m with
 | zero =>
  intro i s hi o
  obtain ⟨oi, hoi, hI⟩ := o.rep.last
  obtain ⟨od', hod, rfl⟩ := o.rep.cells (d, .obj od) (memL _ (.tail _ hd))
  refine codeAny_builtin F.entry_set_update_loop ?_
  rw [Around.under_plainId F.plain_set_update_loop _]
  show wpAny _ A.in1 (pyNext (.ref it) >>= _) _ _ _
  refine wb (wpAny_pyNext_dict_end (A := A.in1) (knd := PySem.strKind c.prog c.w) hA ⟨oi, hoi, hI⟩ ⟨_, _, hod, hDA⟩ (List.getElem?_eq_none (by lia)) fun h' he => ?_)
  refine wq (hR _ ?_)
  rw [show l.take i = l from List.take_of_length_le (by lia)] at o
  exact o.trans (o.rep.grow (τ := [_]) (fun b ob hb eo => he b ob (by simpa [addrs] using hb) eo) (Nat.le_refl _))
 | succ m ih =>
  intro i s hi o
  obtain ⟨oi, hoi, hI⟩ := o.rep.last
  obtain ⟨od', hod, rfl⟩ := o.rep.cells (d, .obj od) (memL _ (.tail _ hd))
  obtain ⟨⟨q, p⟩, hq⟩ : ∃ x, l[i]? = some x := ⟨_, List.getElem?_eq_getElem (by lia)⟩
  obtain ⟨⟨q', v⟩, hx⟩ : ∃ x, kvs[i]? = some x := ⟨_, List.getElem?_eq_getElem (by lia)⟩
  have hqq : q' = q := by
   have h1 := congrArg (·[i]?) hkl
   simp only [List.getElem?_map, hx, hq, Option.map_some] at h1
   exact Option.some.inj h1
  subst hqq
  refine codeAny_builtin F.entry_set_update_loop ?_
  rw [Around.under_plainId F.plain_set_update_loop _]
  show wpAny _ A.in1 (pyNext (.ref it) >>= _) _ _ _
  refine wb (wpAny_pyNext_dict_item (A := A.in1) (knd := PySem.strKind c.prog c.w) ⟨oi, hoi, hI⟩ ⟨_, _, hod, hDA⟩ hx fun key h' hkey hit' hsb => ?_)
  obtain ⟨tk, rfl⟩ := strKind_str hkey
  obtain ⟨oi', hoi', hI'⟩ := hit'
  have o1 := o.rep.upd (h' := h') (x' := .that (KeyIt d kvs.length ep (i + 1))) Up.last hsb hoi' hI' s.toks (Nat.le_refl _)
  dsimp only
  refine wb (wpAny_holding (setAdd_str (c := c) ?_))
  have o2 := Out.toks o1.rep (s.toks + 1) (Nat.le_succ _)
  have hlen : (insAll L (l.take i)).length <= 8 := by
   have := insAll_len L (l.take i)
   rw [List.length_take] at this
   exact nH this (by lia)
  have ei := insAll_take (L := L) hq
  refine wm (sx_put (tk := tk) o2.rep (Up.append_right _ .head) (insAll_ne hL _) hlen) (fun _ s' o3 => ?_)
  refine wq ⟨plainId_quiet F.plain_set_update_loop _, ih (i + 1) s' (by lia) ?_⟩
  rw [ei]
  exact ((o.trans o1).trans o2).trans o3
theorem KVs.keys {V : View} {l : List (Str × PV)} {kvs : List (Str × Value)} (h : KVs V l kvs) : kvs.map (·.1) = l.map (·.1) :=
 h.rec (motive := fun l kvs _ => kvs.map (·.1) = l.map (·.1)) rfl fun _ _ e => congrArg (_ :: ·) e
theorem star_dict {A : Around} {a d : Addr} {l : List (Str × PV)} {k : Str} {σ : Store} (hA : A.handled = none) (R : Rep c ((a, .that (SX c.w [k])) :: σ) s) (hd : (d, Cell.dict l) ∈ σ) (hz : l.length <= 3) :
  wpAny c.M A (setDisplayStar a (.ref d)) (fun _ s' => Out c ((a, .that (SX c.w [k])) :: σ) s ((a, .that (SX c.w (insAll [k] l))) :: σ) s') (fun _ _ => False) s := by
 obtain ⟨p1, p2, rfl⟩ := List.append_of_mem hd
 obtain ⟨kvs, hm, hkv⟩ := R.dictAt (.tail _ hd)
 obtain ⟨od, es, ep, hod, hex, hdat, hks, hpr, hnd⟩ := hm
 have hkl := hkv.keys
 have hkl' : kvs.length = l.length := hkv.length
 have hsz : es.size = l.length := by rw [<- hkl', <- hpr.length, Array.length_toList]
 have hT : s.TypeIs (.ref d) "dict" := R.dictIs (.tail _ hd)
 have hds : (d == sysModules) = false := R.sysne (.tail _ hd)
 have o0 := R.recell (x' := .obj od) (σ' := (a, .that (SX c.w [k])) :: (p1 ++ (d, .obj od) :: p2)) (.tail Up.at) hod rfl
 have back : ∀ s', Out c ((a, .that (SX c.w [k])) :: (p1 ++ (d, .dict l) :: p2)) s ((a, .that (SX c.w (insAll [k] l))) :: (p1 ++ (d, .obj od) :: p2)) s' -> Out c ((a, .that (SX c.w [k])) :: (p1 ++ (d, .dict l) :: p2)) s ((a, .that (SX c.w (insAll [k] l))) :: (p1 ++ (d, .dict l) :: p2)) s' := fun s' o => by
  obtain ⟨od', hod', rfl⟩ := o.rep.cells (d, .obj od) (.tail _ (memR _ (.head _)))
  exact o.trans (o.rep.recell (x' := .dict l) (.tail Up.at) hod' ⟨kvs, ⟨es, ep, hex, hdat, hks, hpr, hnd⟩, hkv.mono o.view⟩)
 unfold setDisplayStar
 refine wb (wpAny_isInstance (T := "dict") (b := false) hT (by rw [isSubtype_type]; kernel_rfl) ?_)
 refine wb (wpAny_isInstance (T := "dict") (b := false) hT (by rw [isSubtype_type]; kernel_rfl) ?_)
 refine wb (wpAny_askSetting ?_)
 dsimp only
 cases hb : c.M.w.params.followText "set-display-star-reads-storage" with
 | true =>
  rw [if_pos rfl]
  dsimp only
  refine wb (wpAny_pyIter_dict (knd := PySem.strKind c.prog c.w) (kvs := kvs) (ep := ep) hds ⟨od, es, hod, hex, hdat, hks, hpr, hnd⟩ ?_)
  have o1 := o0.rep.newLast { cls := .type "dict_keyiterator", data := .fields #[.ref d, .int 0 0, .int kvs.length 0, .int ep 0] } (KeyIt d kvs.length ep 0) ⟨rfl, rfl⟩
  refine wb (wpAny_runValue ?_)
  refine codeAny_mono (update_loop (es := es) (l := l) (L := [k]) (a := a) (σ₀ := (a, .that (SX c.w [k])) :: (p1 ++ (d, .obj od) :: p2)) (s₀ := s) (Rr := fun r s' => r = .ok (.ret .none) /\ Out c ((a, .that (SX c.w [k])) :: (p1 ++ (d, .obj od) :: p2)) s ((a, .that (SX c.w (insAll [k] l))) :: (p1 ++ (d, .obj od) :: p2)) s') hA (memR _ (.head _)) ⟨hex, hdat, hks, hpr, hnd⟩ (by simp; lia) (by simp) hkl (fun s' o => ⟨rfl, o⟩) l.length 0 _ (by lia) o1) fun r s' hq2 => ?_
  obtain ⟨e, o⟩ := hq2
  subst e
  exact wq (back _ (o0.trans o))
 | false =>
  rw [if_neg (by simp)]
  dsimp only
  rw [if_neg (by simp)]
  refine wb (wpAny_typeOf hT ?_)
  rw [if_pos (by decide)]
  refine wb (wpAny_rule ?_)
  rw [if_neg (by rw [hds]; simp)]
  refine wb (wpAny_dictEpoch hod hdat ?_)
  refine wb (wpAny_dictEntries hod hdat ?_)
  refine wb (room_one (c := c) o0.rep (.head _) (by lia) ?_)
  rw [Std.Legacy.Range.forIn_eq_forIn_range']
  have hrs : ([:es.size] : Std.Legacy.Range).size = es.size := by simp [Std.Legacy.Range.size]
  rw [hrs]
  refine wb (star_range (c := c) (a := a) (l := l) (L := [k]) (post := p1 ++ (d, .obj od) :: p2) (fun i s1 x hx Qf R1 hQf => ?_) es.size 0 s _ (by lia) o0.rep fun s' o => wq (back _ (o0.trans o)))
  obtain ⟨od', hod1, rfl⟩ := R1.cells (d, .obj od) (.tail _ (memR _ (.head _)))
  obtain ⟨⟨q', v⟩, hx'⟩ : ∃ x, kvs[i]? = some x := ⟨_, List.getElem?_eq_getElem (by have := (List.getElem?_eq_some_iff.mp hx).1; lia)⟩
  have hqq : q' = x.1 := by
   have h1 := congrArg (·[i]?) hkl
   simp only [List.getElem?_map, hx, hx', Option.map_some] at h1
   exact Option.some.inj h1
  subst hqq
  obtain ⟨t, ht⟩ := dict_at hks hpr hx'
  refine wb (wpAny_dictEntries hod1 hdat ?_)
  rw [ht]
  dsimp only
  have hlen : (insAll [k] (l.take i)).length <= 8 := by
   have := insAll_len [k] (l.take i)
   rw [List.length_take, List.length_singleton] at this
   exact nH this (by lia)
  refine wb (wpAny_holding (wb (wm (sx_put R1 .head (insAll_ne (by simp) _) hlen) (fun _ s2 o2 => wq ?_))))
  obtain ⟨od'', hod2, rfl⟩ := o2.rep.cells (d, .obj od') (.tail _ (memR _ (.head _)))
  refine wb (wpAny_dictEpoch hod2 hdat ?_)
  rw [if_neg (by simp)]
  exact wq ⟨rfl, hQf s2 o2⟩
theorem snoc_perm {p : Addr × Cell} : (σ ++ [p]).Perm (p :: σ) := by
 have := List.perm_append_comm (l₁ := σ) (l₂ := [p])
 exact this
theorem E.setD {e1 e2 : PySem.Expr} {p pos : Pos} (B : Base c) (hcode : kdsCode (KK c.P) env.code = true)
  (h : ∀ D, E c env e1 (σ ++ [(D, .that (SX0 c.w))]) (fun q σ1 => ∃ k, q = .str k /\ σ1 = σ ++ [(D, .that (SX0 c.w))] /\ E c env e2 (σ ++ [(D, .that (SX c.w [k]))]) (fun q σ₂ => ∃ d l, q = .raw (.ref d) /\ σ₂ = σ ++ [(D, .that (SX c.w [k]))] /\ (d, Cell.dict l) ∈ σ /\ l.length <= 3 /\ Q (.raw (.ref D)) (σ ++ [(D, .that (SX c.w (insAll [k] l)))]))))
  (hs : autoParam (starEach [e1, .Starred e2 p] env = [(false, eval e1 env), (true, eval e2 env)]) aRfl) : E c env (.Set [e1, .Starred e2 p] 0 pos) σ Q := fun V A s hA R hV => by
 rw [arm_eval_Set]
 refine wb (wpAny_standAt ?_)
 refine wb (kds_main (K := KK c.P) (B.In R.le) hcode fun b => ?_)
 rw [hs]
 unfold setDisplay
 have hr : displayRoad 0 [e1, PySem.Expr.Starred e2 p] = .oneByOne := rfl
 rw [hr]
 dsimp only
 rw [if_neg (by decide)]
 unfold newSet setsByText
 refine wb (wb (wb (wpAny_askSetting (wq ?_))))
 dsimp only
 simp only [newObj]
 refine wb (wpAny_alloc ?_)
 refine wq ?_
 generalize hled : (!c.M.w.params.followText "set-order") = led
 have hled' : c.w.params.followText "set-order" = false -> led = true := fun h => by rw [<- hled]; show (!c.w.params.followText "set-order") = true; rw [h]; rfl
 have o1 := R.newLast { cls := .type "set", dict := Option.none, data := .set #[] 0 (.fresh 0 0 led), slots := #[] } (SX0 c.w) ⟨led, rfl, hled'⟩
 generalize s.heap.objs.size = D at o1 ⊢
 dsimp only
 refine wb (wpAny_holding ?_)
 show wpAny _ _ (evalAll [do let v <- eval e1 env; standAt pos; pure v] >>= _) _ _ _
 refine wb (evalAll_cons (wb (W.onr (h D _) hA o1.rep (.refl _) (fun v s2 σ₂ o2 q rq hq1 => ?_))))
 obtain ⟨k, eq, eσ, h2⟩ := hq1
 subst eq eσ
 obtain ⟨tk, rfl⟩ := rq.inv_str
 refine wb (wpAny_standAt (wq (evalAll_nil ?_)))
 refine wb (wpAny_holding ?_)
 rw [List.forIn_cons]
 refine wb (wb (wb (setAdd_str (c := c) ?_)))
 have o3 := Out.toks o2.rep (s2.toks + 1) (Nat.le_succ _)
 refine wm (sx_first (k := k) (tk := tk) o3.rep (Up.append _ .head)) (fun _ s4 o4 => wq ?_)
 dsimp only
 rw [List.forIn_nil]
 refine wq ?_
 rw [if_neg (by decide)]
 refine wq ?_
 show wpAny _ _ (forIn [(true, do let v <- eval e2 env; standAt pos; pure v)] _ _ >>= _) _ _ _
 rw [List.forIn_cons]
 refine wb (wb (wb (wb (W.onr (h2 _) hA o4.rep (.refl _) (fun v s5 σ5 o5 q rq2 hq2 => ?_)))))
 obtain ⟨d, l, eq, eσ, hd, hl, hq⟩ := hq2
 subst eq eσ
 have := rq2.inv_raw
 subst this
 refine wb (wpAny_standAt (wq ?_))
 dsimp only
 rw [if_pos rfl]
 have o6 := ((((o1.trans o2).trans o3).trans o4).trans o5)
 have o7 := o6.perm_r snoc_perm.symm
 refine wb (wpAny_holding (wpAny_mono (star_dict hA.handled o7.rep hd hl) (fun _ s8 o8 => wq ?_) fun _ _ e => e.elim))
 dsimp only
 rw [List.forIn_nil]
 refine wq (wq (wq ?_))
 exact ⟨_, (o7.trans o8).perm_r snoc_perm, _, .raw _, hq⟩
end
theorem runs_toks {M : Model} {Γ : Ctx} {p : Pos} {t : Sem PySem.Fin} {fs : List Frame} {s : Shared} {e : End} {s' : Shared} (h : Runs M Γ p t fs s e s') : s.toks <= s'.toks := by
 induction h with
 | done | raise | yield => exact Nat.le_refl _
 | fresh _ ih => exact Nat.le_of_succ_le ih
 | call _ _ i1 i2 => exact Nat.le_trans i1 i2
 | resumeFresh _ _ _ _ i1 i2 => exact Nat.le_trans i1 i2
 | resumeSuspended _ _ _ _ i1 i2 => exact Nat.le_trans i1 i2
 | segRet _ _ i1 i2 => exact Nat.le_trans i1 i2
 | segGen _ _ i1 i2 => exact Nat.le_trans i1 i2
 | segSuspGen _ _ _ _ i1 i2 => exact Nat.le_trans i1 i2
 | _ => assumption
theorem wakes_toks {M : Model} {Γ : Ctx} {p : Pos} {g : Nat} {r : Resume} {s : Shared} {res : GenResult} {s' : Shared} (h : Wakes M Γ p g r s res s') : s.toks <= s'.toks := by
 unfold Wakes at h
 split at h
 ·exact h.elim
 ·split at h
  ·obtain ⟨e1, s1, h1, _, _, rfl⟩ := h
   have := runs_toks h1
   exact this
  ·obtain ⟨_, rfl⟩ := h; exact Nat.le_refl _
  ·obtain ⟨_, rfl⟩ := h; exact Nat.le_refl _
 ·obtain ⟨e1, s1, h1, _, _, rfl⟩ := h
  have := runs_toks h1
  exact this
 ·obtain ⟨_, rfl⟩ := h; exact Nat.le_refl _
 ·obtain ⟨_, rfl⟩ := h; exact Nat.le_refl _
theorem wp_toks {α : Type} {M : Model} {Γ : Ctx} {Q : α -> Pos -> Shared -> Prop} {E : Value -> Pos -> Shared -> Prop} {n : Nat} (t : Sem α) : ∀ (p : Pos) (s : Shared), n <= s.toks -> Sem.wp M Γ t Q E p s -> Sem.wp M Γ t (fun a p' s' => Q a p' s' /\ n <= s'.toks) E p s := by
 induction t with
 | pure a => intro p s hn h; rw [Sem.wp] at h ⊢; exact ⟨h, hn⟩
 | raise e => intro p s hn h; rw [Sem.wp] at h ⊢; exact h
 | load a part k ih => intro p s hn h; rw [Sem.wp] at h ⊢; obtain ⟨o, h1, h2⟩ := h; exact ⟨o, h1, ih o p s hn h2⟩
 | update a part f k ih => intro p s hn h; rw [Sem.wp] at h ⊢; exact ⟨h.1, ih () p _ hn h.2⟩
 | fresh k ih => intro p s hn h; rw [Sem.wp] at h ⊢; exact ih _ p _ (Nat.le_succ_of_le hn) h
 | choose src m k ih => intro p s hn h; rw [Sem.wp] at h ⊢; exact ⟨h.1, ih _ p _ hn h.2⟩
 | call c hd g l k ih =>
  intro p s hn h
  rw [Sem.wp] at h ⊢
  obtain ⟨r, s', h1, h2⟩ := h
  exact ⟨r, s', h1, ih r p s' (Nat.le_trans hn (runs_toks h1)) h2⟩
 | genState g k ih => intro p s hn h; rw [Sem.wp] at h ⊢; obtain ⟨st, h1, h2⟩ := h; exact ⟨st, h1, ih _ p s hn h2⟩
 | resume g r l k ih =>
  intro p s hn h
  rw [Sem.wp] at h ⊢
  obtain ⟨res, s', h1, h2⟩ := h
  exact ⟨res, s', h1, ih res p s' (Nat.le_trans hn (wakes_toks h1)) h2⟩
 | rule tag k ih => intro p s hn h; rw [Sem.wp] at h ⊢; exact ih () p s hn h
 | «at» p' k ih => intro p s hn h; rw [Sem.wp] at h ⊢; exact ih () p' s hn h
 | alloc o k ih => intro p s hn h; rw [Sem.wp] at h ⊢; exact ih _ p _ hn h
 | loadIfAlive a k ih => intro p s hn h; rw [Sem.wp] at h ⊢; exact ih _ p s hn h
 | point l k ih => intro p s hn h; rw [Sem.wp] at h ⊢; exact ih () p s hn h
 | ask k ih => intro p s hn h; rw [Sem.wp] at h ⊢; exact ih _ p s hn h
 | os q l k ih => intro p s hn h; rw [Sem.wp] at h ⊢; exact ih _ p _ hn h
 | handled own k ih => intro p s hn h; rw [Sem.wp] at h ⊢; exact ih _ p s hn h
 | newGen c k ih => intro p s hn h; rw [Sem.wp] at h ⊢; exact ih _ p _ hn h
 | stack k ih => intro p s hn h; rw [Sem.wp] at h ⊢; exact ih _ p s hn h
 | thread k ih => intro p s hn h; rw [Sem.wp] at h ⊢; exact ih _ p s hn h
 | unsupported w => intro p s hn h; rw [Sem.wp] at h; exact h.elim
 | finish e => intro p s hn h; rw [Sem.wp] at h; exact h.elim
 | register a k ih => intro p s hn h; rw [Sem.wp] at h; exact h.elim
 | yield v g l k ih => intro p s hn h; rw [Sem.wp] at h; exact h.elim
 | fork c k ih => intro p s hn h; rw [Sem.wp] at h; exact h.elim
 | await a tk td l k ih => intro p s hn h; rw [Sem.wp] at h; exact h.elim
theorem wpAny_toks {α : Type} {M : Model} {A : Around} {t : Sem α} {Q : α -> Shared -> Prop} {E : Value -> Shared -> Prop} {s : Shared} (h : wpAny M A t Q E s) : wpAny M A t (fun a s' => Q a s' /\ s.toks <= s'.toks) E s := fun Γ p hΓ => wp_toks t p s (Nat.le_refl _) (h Γ p hΓ)
theorem tkG {α : Type} {M : Model} {A : Around} {t : Sem α} {Q : α -> Shared -> Prop} {E : Value -> Shared -> Prop} {s : Shared} (h : wpAny M A t (fun a s' => s.toks <= s'.toks -> Q a s') E s) : wpAny M A t Q E s := wm (wpAny_toks h) fun _ _ h => h.1 h.2
section
variable {c : Cx} {env : Env} {σ σ' τ : Store} {s : Shared} {Q : PV -> Store -> Prop}
noncomputable def CodeO (qual : Str) (o : Obj) : Prop := ∃ vs t, o.data = .fields vs /\ vs[1]? = some (.str qual t)
noncomputable abbrev tabOf (l k : Nat) (c' : Addr) : Obj := tabObj #[rawInt l, rawInt k, .ref c']
noncomputable def tabS (P : Addr) (l k : Nat) : Option (Addr × Obj) -> Store
 | none => [(P, .obj (tabObj #[]))]
 | some (c', oc) => [(P, .obj (tabOf l k c')), (c', .obj oc)]
noncomputable def tabOk (qual : Str) : Option (Addr × Obj) -> Prop
 | none => True
 | some (_, oc) => CodeO qual oc
theorem Base.bmain (B : Base c) (R : Rep c σ s) : ∃ mg : Str -> Option Value, s.heap.Ns mainGlobals mg /\ ∀ P ps, s.heap.get? P = some (tabObj ps) -> mainGlobals ≠ P /\ s.heap.BuiltinsAt mg P := by
 obtain ⟨mg, bm, ob, a1, a2, a3, a4, a5, a6, a7⟩ := B.bm
 have hb := R.le _ _ a4
 have hn := a1 s.heap R.le
 refine ⟨mg, hn, fun P ps ho => ⟨fun q => ?_, bm, ob, a2, a3, fun q => ?_, fun q => ?_, hb, a5, a6, a7⟩⟩
 ·obtain ⟨o', es, ep, e, hd, _⟩ := hn
  rw [q, ho] at e
  cases e
  cases hd
 ·obtain ⟨o', es, ep, e, hd, _⟩ := hn
  rw [<- q, hb] at e
  cases e
  rw [a7] at hd
  cases hd
 ·rw [q, ho] at hb
  cases hb
  cases a5
theorem E.lamNew {params : Arguments} {body : PySem.Expr} {scope : Scope} {pos : Pos} {cc P : Addr} {pre post : Store} (B : Base c) (hC : codeHdIn (KK c.P) cc P = true)
  (h : ∀ f c' oc pm ctv, CodeO (env.qual ++ "<lambda>") oc -> Q (.raw (.ref f)) ((f, .obj (kla_obj "<lambda>" (env.qual ++ "<lambda>") params body scope [] pm c' ctv)) :: (c', .obj oc) :: (pre ++ (P, .obj (tabOf pos.line pos.col c')) :: post)))
  (hdef : autoParam (defaultsOf params env = ([], [])) aRfl) (hcl : autoParam (closureFor scope env = pure []) aRfl) (hge : autoParam (env.globals = mainGlobals) aRfl) (hcode : autoParam (env.code = .ref cc) aRfl) :
  E c env (.Lambda params body scope pos) (pre ++ (P, .obj (tabObj #[])) :: post) Q := fun V A s hA R hV => by
 obtain ⟨oP, hP, rfl⟩ := R.cells (P, .obj (tabObj #[])) (memR _ (.head _))
 obtain ⟨mg, hg, hbm⟩ := B.bmain R
 obtain ⟨hPg, hb⟩ := hbm P _ hP
 have C : CodeHd s.heap cc P := codeHd_of_K (B.In R.le) hC
 refine kla_eval hdef ?_
 refine tkG (kla_makeFunction hcl hge hg hcode C hP (by trivial) rfl hPg hb fun c' ctv h' tk x1 x2 x3 x4 x5 ht => ?_)
 obtain ⟨c2, oc, vs, t, e, hoc, hd, hv⟩ := x4
 cases e
 have sb := Heap.SameBut.update s.heap P (fun _ => tabOf pos.line pos.col c')
 have eP : (s.heap.update P (fun _ => tabOf pos.line pos.col c')).get? P = some (tabOf pos.line pos.col c') := Heap.get?_update_self (fun _ => tabOf pos.line pos.col c') hP rfl
 have o1 := R.upd (h' := s.heap.update P (fun _ => tabOf pos.line pos.col c')) (x' := .obj (tabOf pos.line pos.col c')) Up.at sb eP rfl s.toks (Nat.le_refl _)
 have keep : ∀ b o, (s.heap.update P (fun _ => tabOf pos.line pos.col c')).get? b = some o -> h'.get? b = some o := fun b o e => by
  by_cases hbP : b = P
  ·subst hbP
   rw [eP] at e
   cases e
   exact x5
  ·exact x1 b o hbP (by rw [<- sb.2 b hbP]; exact e)
 have o2 := o1.rep.newCell (h' := h') (tk := tk) (a := c') (x := .obj oc) keep (by show (s.heap.update P _).objs.size <= c'; rw [Heap.size_update]; exact x2) hoc rfl ht
 have o3 := o2.rep.push_cell (kla_obj "<lambda>" (env.qual ++ "<lambda>") params body scope [] ((mg "__name__").getD .none) c' ctv) (.obj _) rfl
 exact ⟨_, (o1.trans o2).trans o3, _, .raw _, h _ _ _ _ _ ⟨vs, t, hd, hv⟩⟩
theorem E.lamHit {params : Arguments} {body : PySem.Expr} {scope : Scope} {pos : Pos} {cc P c' : Addr} {pre post : Store} (B : Base c) (hC : codeHdIn (KK c.P) cc P = true)
  (h : ∀ f pm ctv, Q (.raw (.ref f)) ((f, .obj (kla_obj "<lambda>" (env.qual ++ "<lambda>") params body scope [] pm c' ctv)) :: (pre ++ (P, .obj (tabOf pos.line pos.col c')) :: post)))
  (hdef : autoParam (defaultsOf params env = ([], [])) aRfl) (hcl : autoParam (closureFor scope env = pure []) aRfl) (hge : autoParam (env.globals = mainGlobals) aRfl) (hcode : autoParam (env.code = .ref cc) aRfl) :
  E c env (.Lambda params body scope pos) (pre ++ (P, .obj (tabOf pos.line pos.col c')) :: post) Q := fun V A s hA R hV => by
 obtain ⟨oP, hP, rfl⟩ := R.cells (P, .obj (tabOf pos.line pos.col c')) (memR _ (.head _))
 obtain ⟨mg, hg, hbm⟩ := B.bmain R
 obtain ⟨hPg, hb⟩ := hbm P _ hP
 have C : CodeHd s.heap cc P := codeHd_of_K (B.In R.le) hC
 refine kla_eval hdef ?_
 refine tkG (kla_makeFunctionHit (cv := .ref c') hcl hge hg hcode C hP (by trivial) (by simp [codeAmong, rawInt]) hb fun ctv h' tk x1 x2 ht => ?_)
 have o1 := R.more (h' := h') (tk := tk) x1 ht
 have o3 := o1.rep.push_cell (kla_obj "<lambda>" (env.qual ++ "<lambda>") params body scope [] ((mg "__name__").getD .none) c' ctv) (.obj _) rfl
 exact ⟨_, o1.trans o3, _, .raw _, h _ _ _⟩
end
section
variable {c : Cx} {env : Env} {σ σ' τ : Store} {s : Shared} {Q : PV -> Store -> Prop} {N : Store -> Prop} {R : PV -> Store -> Prop}
noncomputable abbrev fnObj (fd : FuncData) : Obj := { cls := .type "function", data := .func fd }
theorem Ca.lam {fd : FuncData} {f c' : Addr} {oc : Obj} {x : Str} {p : PV} {body : PySem.Expr} (B : Base c) (hd : c.d < recursionLimit) (hf : (f, Cell.obj (fnObj fd)) ∈ σ) (hc' : (c', Cell.obj oc) ∈ σ) (hO : CodeO fd.qualname oc) (hcode : fd.code = .ref c')
  (hb : fd.body = .expr body) (hk : fd.scope.kind = .function) (hco : fd.scope.isCoroutine = false) (hgen : fd.scope.isGenerator = false) (hcell : (fd.scope.names.all fun x => decide (x.2 ≠ .cell)) = true) (hn : (fd.scope.names.lookup x == some .local && !(x == ("__debug__" : Str))) = true)
  (hbind : ∀ v, bindArgs fd ⟨[v], []⟩ = pure [(x, v)])
  (h : ∀ L, Fm (callEnv fd L f) L [x] -> Base { c with d := c.d + 1, u := c.u + 3 } -> E { c with d := c.d + 1, u := c.u + 3 } (callEnv fd L f) body ((L, .loc [x] [some p]) :: σ) (fin Q)) : Ca c (.ref f) [p] σ Q := fun V vs hv => W.call fun A s hA R hV => by
 obtain ⟨v, _, rfl, rv, hv'⟩ := hv.inv_cons
 have e0 := hv'.inv_nil
 subst e0
 obtain ⟨o, ho, rfl⟩ := R.cells _ hf
 obtain ⟨o', ho', rfl⟩ := R.cells _ hc'
 have hcd : s.heap.CodeRec fd.code fd.qualname := let ⟨vs, t, h1, h2⟩ := hO; ⟨c', _, vs, t, hcode, ho', h1, h2⟩
 rw [Bool.and_eq_true] at hn
 have hloc : fd.scope.names.lookup x = some .local := beq_iff_eq.mp hn.1
 refine kla_callFunE (Nat.lt_of_le_of_lt hA.depth hd) ho rfl hco hgen hb hcd ?_
 rw [hbind]
 refine wq (wpAny_newFunctionEnv (fun y hy => of_decide_eq_true (List.all_eq_true.mp hcell y hy)) (fun y hy => by rw [List.mem_singleton.mp hy]; exact hloc) (fun h₁ hns hsb => ⟨(B.lim R.le).fresh _ hsb, ?_⟩) hk)
 have keep : ∀ b o, s.heap.get? b = some o -> h₁.get? b = some o := fun b o e => hsb.extBut b o (Nat.ne_of_lt (Heap.lt_size e)) (Heap.get?_push_of_some _ e)
 have rv' := rv.mono hV
 obtain ⟨oL, es, ep, hL, hLd, hLk, hLf⟩ := hns
 have out := R.newCell (h' := h₁) (tk := s.toks + ([(x, v)] : List (Str × Value)).length) (a := s.heap.objs.size) (x := .loc [x] [some p]) keep (Nat.le_refl _) hL ⟨es, ep, hLd, hLk, fun i y q h1 h2 => by
  cases i with
  | zero =>
   simp at h1 h2
   subst h1 h2
   refine ⟨v, ?_, rv'⟩
   rw [hLf]
   simp
  | succ i => simp at h1⟩ (Nat.le_add_right _ _)
 have F : Fm (callEnv fd s.heap.objs.size f) s.heap.objs.size [x] := ⟨⟨hk, fun y hy => by rw [List.mem_singleton.mp hy]; exact hloc, by simp, fun y hy => by rw [List.mem_singleton.mp hy]; simpa using hn.2⟩, rfl⟩
 have go := h s.heap.objs.size F (B.up _ _) _ (A.deeper (callEnv fd s.heap.objs.size f)) { s with heap := h₁, toks := s.toks + ([(x, v)] : List (Str × Value)).length } ⟨hA.handled, Nat.succ_le_succ hA.depth, Nat.add_le_add_right hA.units 3⟩ out.rep.up (.refl _)
 refine kla_codeExpr (wpAny_mono go (fun v s' hq1 => ?_) fun _ _ e => e.elim)
 obtain ⟨σ', o', q, rq, σ'', hs, hq⟩ := hq1
 have o1 := o'.down
 have od := Out.sub o1.rep (fun p hp => hs.subset hp) (o1.rep.nodup.sublist (hs.map Prod.fst))
 exact ⟨v, σ'', rfl, (out.trans o1).trans od, q, rq.mono od.view, hq⟩
theorem sorted_keyed {p : PV} {f : Addr} {P : List PV -> Prop} {key : PV -> PV} (hu : c.u < 8000) (hcol : Col c p σ P)
  (hP : ∀ l, P l -> l.length <= 4 /\ (∀ σ' q, q ∈ l -> (∀ x ∈ σ, x ∈ σ') -> Ca { c with u := c.u + 3 } (.ref f) [q] σ' (fun r σ'' => r = key q /\ σ'' = σ')) /\ ∃ κ r, (2 <= l.length -> KKd { c with u := c.u + 3 } κ (l.map key)) /\ (∀ (i j : Nat) p q, (l.map key)[i]? = some p -> (l.map key)[j]? = some q -> i ≠ j -> KLt { c with u := c.u + 3 } κ p q (r i j)) /\ Srt l.length r (fun p => p.Perm (List.range l.length)))
  (h : ∀ l l', P l -> l'.Perm l -> Q (.lst l') σ) (V : View) (v : Value) (hv : VR V p v) : W c (call (.builtin "sorted") [v] [(Str.ofString "key", .ref f)]) V σ (ret Q) := fun A s hA R hV => by
 have hu' : A.units < 8000 := Nat.lt_of_le_of_lt hA.units hu
 refine call_function_entry_kw kind_sorted plain_sorted entry_sorted (ksk_s1 _ _) ?_
 unfold Builtin.«sorted»
 refine wpAny_bind (m := checkCount "sorted" 1 1 _) (wq ?_)
 refine wb (wpAny_mono (hcol A.in1 s v hA.handled R (hv.mono hV)) (fun vs s1 hq2 => ?_) fun _ _ e => e.elim)
 obtain ⟨l, hl, o1, rv⟩ := hq2
 obtain ⟨hl4, hkey, κ, r, hk, hc, hS⟩ := hP l hl
 refine wb (wpAny_newList ?_ (by rw [rv.length, sizeLine_eq]; lia))
 have o2 := (o1.rep.push_cell (seqObj "list" vs.toArray 0) (.list l) ⟨vs, 0, rfl, rv⟩).perm_r (σ₂ := σ ++ [(s1.heap.objs.size, .list l)]) snoc_perm
 obtain ⟨x, e, vs', n, rfl, rv'⟩ := o2.rep.cells (s1.heap.objs.size, .list l) (memR _ (.head _))
 have run := sort_keyed (c := { c with u := c.u + 3 }) (s := { s1 with heap := s1.heap.push (seqObj "list" vs.toArray 0) }) (A := A.in1.in1) (post := []) (P := fun _ => True) (f := .ref f) (key := key) ⟨hA.handled, hA.depth, by show A.units + 1 + 1 <= c.u + 3; have := hA.units; lia⟩ (by show A.units + 1 + 1 < 9000; lia) o2.rep.up hl4
  (fun σ' q hq hx => hkey σ' q hq fun x hx' => hx x (by simpa using hx')) hk hc (hS.mono fun p hp => ⟨trivial, hp⟩)
 refine wb (wpAny_holding (wpAny_call_entry_kw slot_list_sort ⟨_, e, rfl⟩ entry_list_sort ?_ (ksk_l1 _ _)))
 rw [ksk_t1]
 refine wm run (fun fi s2 hq3 => ?_)
 obtain ⟨efi, pm, _, h2, o3⟩ := hq3
 subst efi
 obtain ⟨o4, r4⟩ := ((o1.trans o2).trans o3.down).freeze
 exact ⟨_, rfl, wq ⟨_, rfl, σ, o4, _, r4, h l _ hl (pick_perm h2)⟩⟩
theorem E.callK {x k : Str} {p pos kp : Pos} {e v : PySem.Expr} (h : E c env (.Name x p) σ (fun pf σ1 => ∃ f, pf = .raw f /\ E c env e σ1 (fun q σ₂ => E c env v σ₂ (fun r σ3 => ∃ g, r = .raw g /\ KeeperIs c f σ3 /\ ∀ V va, VR V q va -> W c (PySem.call f [va] [(k, g)]) V σ3 (ret Q)))))
  (he : autoParam (starEach [e] env = [(false, eval e env)]) aRfl) : E c env (.Call (.Name x p) [e] [⟨some k, v, kp⟩] pos) σ Q := fun V A s hA R hV =>
 wpAny_Call_Name_kw (W.onr (h V) hA R hV (fun vf s1 σ1 o1 pf rf hq1 => by
  obtain ⟨f, ef, q1⟩ := hq1
  subst ef
  have := rf.inv_raw
  subst this
  refine callWith_gen (evalArgs_kw2 rfl ?_ (by rw [he]; rfl))
  rw [show backTo pos (starEach [e] env) = [(false, eval e env)] by rw [he]; rfl]
  refine Calls.spliced_cons (W.onr (q1 _) hA o1.rep (.refl _) (fun va s2 σ₂ o2 q rq q2 => ?_))
  refine Calls.spliced_nil ?_
  refine kwAll_cons (W.onr (q2 _) hA o2.rep (.refl _) (fun vg s3 σ3 o3 r rr hq2 => ?_))
  obtain ⟨g, er, hk, hc⟩ := hq2
  subst er
  have := rr.inv_raw
  subst this
  refine kwAll_nil ?_
  obtain ⟨kp', hk⟩ := hk s3 o3.rep
  refine ⟨⟨kp', fun Q' q => hk _ _ _ _ q⟩, ?_⟩
  exact W.on (hc _ va (rq.mono o3.view)) hA o3.rep (.refl _) (fun v s4 σ4 o4 q4 => ⟨σ4, ((o1.trans o2).trans o3).trans o4, q4⟩)))
noncomputable abbrev dcS (C : Addr) (ns : List Str) (vs : List (Option PV)) (L : Addr) (ns₀ : List Str) (vs₀ : List (Option PV)) (τ : Store) (D : Addr) (kl : List (Str × PV)) : Store := ((C, .loc ns vs) :: (L, .loc ns₀ vs₀) :: τ) ++ [(D, .dict kl)]
noncomputable def TurnD (c : Cx) (cenv : Addr -> Env) (target kx vx : PySem.Expr) (ns : List Str) (L : Addr) (ns₀ : List Str) (vs₀ : List (Option PV)) (l : List PV) (J : Nat -> List (Str × PV) -> Store -> Prop) : Prop :=
 ∀ F β', VLe c.β β' -> ∀ C D (i : Nat) q vs kl τ', l[i]? = some q -> J i kl τ' -> vs.length = ns.length -> Asg (c.ext F β') (cenv C) target q (dcS C ns vs L ns₀ vs₀ τ' D kl) (fun σ₂ => ∃ vs', vs'.length = ns.length /\ σ₂ = dcS C ns vs' L ns₀ vs₀ τ' D kl /\
  E (c.ext F β') (cenv C) kx σ₂ (fun k σ₃ => σ₃ = σ₂ /\ ∃ kk, k = .str kk /\ E (c.ext F β') (cenv C) vx σ₂ (fun r σ₄ => ∃ τ'', σ₄ = dcS C ns vs' L ns₀ vs₀ τ'' D kl /\ J (i + 1) (sto kl kk r) τ'')))
theorem dictSet_cell {A : Around} {E : Value -> Shared -> Prop} {D : Addr} {kl : List (Str × PV)} {kk : Str} {tk : Tok} {r : PV} {v : Value} (R : Rep c σ s) (U : Up D (.dict kl) (.dict (sto kl kk r)) σ σ') (hv : VR (vw c.F σ s) r v) (hz : kl.length <= sizeLine) :
  wpAny c.M A (dictSet D (.str kk tk) v) (fun _ s' => Out c σ s σ' s') E s := by
 obtain ⟨kvs, hd, hkv⟩ := R.dictAt U.mem
 refine wpAny_dictSet_pairs (knd := PySem.strKind c.prog c.w) (strKind_is _ _ _ _) hd (fun h' hd' hs => ?_) (by rw [hkv.length]; exact hz)
 obtain ⟨o, e, ho⟩ := Heap.dictOf_iff.mp hd'
 exact R.upd (tk := s.toks + 1) U hs e ⟨_, ho, hkv.sto hv⟩ (Nat.le_succ _)
theorem use_store' {L C D : Addr} {ns0 ns : List Str} {vs0 vs0' vs : List (Option PV)} {y : Str} {py : Pos} {τ : Store} {x : Cell} {σ1 : Store} {s1 s' : Shared} {A : Around} (hL : Lo env ns0) (hl : env.locals = L) (p : PV)
  (hp : VR (vw c.F (((C, .loc ns vs) :: (L, .loc ns0 vs0) :: τ) ++ [(D, x)]) s') p (.ref D)) (hsu : Su y p ns0 vs0 vs0')
  (hA : AOk c A) (o : Out c σ1 s1 (((C, .loc ns vs) :: (L, .loc ns0 vs0) :: τ) ++ [(D, x)]) s')
  {Qf : Flow -> Shared -> Prop} (hQ : ∀ s'', Out c σ1 s1 (((L, .loc ns0 vs0') :: τ) ++ [(D, x)]) s'' -> Qf .next s'') :
  wpAny c.M A (PySem.assign (.Name y py) env (.ref D)) (fun _ s'' => ∃ m, s''.heap.Ns C m /\ ∀ h', Heap.SameBut C s''.heap h' -> Qf .next { s'' with heap := h' }) (fun _ _ => False) s' := by
 subst hl
 obtain ⟨i, a, b⟩ := hsu.idx
 subst b
 refine wpAny_assign_Name (W.on (W.store (c := c) (Q := fun _ _ σ' => σ' = ((C, .loc ns vs) :: (env.locals, .loc ns0 (vs0.set i (some p))) :: τ) ++ [(D, x)]) i hL a hp (.tail .head) (fun _ _ => rfl)) hA o.rep (.refl _) (fun _ s2 σ₂ o2 e => ?_))
 subst e
 obtain ⟨m, hn, hd⟩ := drop_C (σ' := ((env.locals, .loc ns0 (vs0.set i (some p))) :: τ) ++ [(D, x)]) (vs := vs) (ns := ns) (C := C) (o.trans (by simpa using o2))
 exact ⟨m, hn, fun h' hs => hQ _ (hd h' hs)⟩
inductive Kdc (c : Cx) (ce : Addr -> Env) (target kx vx : PySem.Expr) (ns : List Str) (L : Addr) (ns₀ : List Str) (y : Str) (N : Store -> Prop) (p : PV) (σ : Store) : Prop
 | mk (l : List PV) (need : Store -> Prop) (J : Nat -> List (Str × PV) -> Store -> Prop) (vs₀ : List (Option PV)) (vs₀' : Addr -> List (Option PV)) (τ : Store) (h : Itb c p σ l need) (n : ∀ σ', need σ') (z : ∀ i kl τ', J i kl τ' -> kl.length <= 100) (u : TurnD c ce target kx vx ns L ns₀ vs₀ l J)
   (e : σ = (L, .loc ns₀ vs₀) :: τ) (j : J 0 [] τ) (q : ∀ D kl τ', J l.length kl τ' -> Su y (.raw (.ref D)) ns₀ vs₀ (vs₀' D) /\ N (((L, .loc ns₀ (vs₀' D)) :: τ') ++ [(D, .dict kl)])) : Kdc c ce target kx vx ns L ns₀ y N p σ
theorem X.dcomp {kx vx target iter : PySem.Expr} {scope : Scope} {y : Str} {py pos spos : Pos} {cl : List (Str × Addr)} {ns0 ns : List Str} {L : Addr} (ok : CompOk env scope cl ns) (hL : Lo env ns0) (hll : env.locals = L)
  (h : E c env iter σ (Kdc c (fun C => compEnvC scope cl C env) target kx vx ns L ns0 y N))
  (hsw : autoParam (swapsWith (.DictComp kx vx [⟨target, iter, [], 0⟩] scope pos) (some (.Name y py)) spos.line env = pure true) aRfl)
  (ht : autoParam (LetsOk target) aLet) (hs : autoParam (∀ x, foldedSetIterable iter env x = pure x) aIr) :
  X c env (.Assign [.Name y py] (.DictComp kx vx [⟨target, iter, [], 0⟩] scope pos) spos) σ N R := fun V A s hA Rp hV => by
 rw [exec_Assign_Name_used _ _ _ _ hsw]
 refine wb (wpAny_standAt (wb ?_))
 show wpAny _ A (do let _ <- comprehension (.DictComp kx vx [⟨target, iter, [], 0⟩] scope pos) scope env _ newDict false (eval iter env) (some (PySem.assign (.Name y py) env))) _ _ s
 refine wb (wm (wpAny_comprehension_free (use := some (PySem.assign (.Name y py) env)) (Q := fun _ s' => Ends c σ s (flow N R .next) s') rfl hs ok.clos ok.kind ok.names
  (W.onr (h V) hA Rp hV (fun x s1 σ1 o1 p rp hz1 => ?_))) (fun _ s' hq => wq (wq hq)))
 obtain ⟨l, need, J, vs0, vs0', τ, hit, hneed, hJ, hturn, e1, hJ0, hN⟩ := hz1
 subst e1
 refine wpAny_mono (hit A s1 x hA o1.rep rp) (fun itv s2 hq2 => ?_) fun _ _ e => e.elim
 obtain ⟨it, St, e, o2, I⟩ := hq2
 subst e
 unfold newDict
 refine wpAny_newObj_type ?_ (Nat.zero_le _)
 have oD := o2.rep.push_cell { cls := .type "dict", data := .dict #[] } (.dict []) ⟨[], (Heap.dictOf_iff.mp (Heap.DictOf.new (knd := PySem.strKind c.prog c.w) s2.heap)).elim fun o hq3 => by
  obtain ⟨e, ho⟩ := hq3
  rw [Heap.get?_push_size _ rfl] at e
  cases e
  exact ho, .nil⟩
 refine wpAny_newFunctionEnv ok.cell (by intro y hy; simp at hy) (fun h₁ hns1 hsb1 => ?_) ok.kind
 dsimp only at hns1 hsb1 ⊢
 have keep : ∀ b o, (s2.heap.push { cls := .type "dict", data := .dict #[] }).get? b = some o -> h₁.get? b = some o := fun b o e =>
  hsb1.extBut b o (fun q => Nat.lt_irrefl _ (q ▸ get_lt e)) (Heap.get?_push_of_some _ e)
 have oC := oD.rep.newLoc (h' := h₁) (ns := ns) (vs := List.replicate ns.length none) (tk := s2.toks + ([] : List (Str × Value)).length) keep hns1 (Nat.le_refl _) (fun i p e => by
  have := List.mem_of_getElem? e
  rw [List.mem_replicate] at this
  cases this.2)
 generalize hC : (s2.heap.push { cls := .type "dict", data := .dict #[] } : Heap).objs.size = C at oC ⊢
 generalize hD : s2.heap.objs.size = D at oD oC ⊢
 have o3 := (oD.trans oC).perm_r (σ₂ := dcS C ns (List.replicate ns.length none) L ns0 vs0 τ D [] ++ [(it, .that (St 0))]) (by
  unfold dcS
  rw [List.append_assoc]
  refine .cons _ ?_
  have h1 : (((L, Cell.loc ns0 vs0) :: τ) ++ ([(D, Cell.dict [])] ++ [(it, Cell.that (St 0))])).Perm ([(D, Cell.dict [])] ++ (((L, Cell.loc ns0 vs0) :: τ) ++ [(it, Cell.that (St 0))])) := by
   rw [<- List.append_assoc, <- List.append_assoc]
   exact List.perm_append_comm.append_right _
  exact h1)
 refine compStart_run (target := target) (iter := iter) (ifs := []) rfl rfl rfl I hA o3.rep o3.view rfl ?_
 refine codeAny_mono (compLoop_run (e := .DictComp kx vx [⟨target, iter, [], 0⟩] scope pos) (k := 0) (cenv := compEnvC scope cl C env) (p0 := iter.pos) (tst := tests [] (compEnvC scope cl C env))
  (inner := do
   let kv <- eval kx (compEnvC scope cl C env)
   let vv <- holding [kv] (eval vx (compEnvC scope cl C env))
   standAt { kx.pos with endLine := vx.pos.endLine, endCol := vx.pos.endCol }
   holding [kv, vv] (dictSet D kv vv))
  (Inv := fun i σ' => ∃ vs kl τ', vs.length = ns.length /\ J i kl τ' /\ σ' = dcS C ns vs L ns0 vs0 τ' D kl)
  (by rfl) rfl rfl rfl ht I (fun i σ' _ => hneed σ') ⟨_, _, _, List.length_replicate, hJ0, rfl⟩ ?_ hA o3.rep o3.view) (fun r s' hz2 => ?_)
 ·rintro F β' hb i q σ' hq ⟨vs, kl, τ', hvs, hj, rfl⟩
  refine Asg.mono (hturn F β' hb C D i q vs kl τ' hq hj hvs) fun σ₂ hq102 V => ?_
  obtain ⟨vs', hvs', e, hE⟩ := hq102
  subst e
  refine tests_nil fun V' hV' => ?_
  rw [if_pos rfl]
  intro V
  refine W.bind ((hE V).mono fun kv V1 σ3 _ hq103 _ => ?_)
  obtain ⟨k, rk, e1, kk, e2, hE2⟩ := hq103
  subst e1 e2
  refine W.bind (W.of fun A s hA R hV => wpAny_holding (W.onr (hE2 _) hA R (.refl _) (fun vv s1 σ4 o4 r rr hq104 => ⟨σ4, o4, fun hle => ?_⟩)))
  obtain ⟨τ'', e3, hj'⟩ := hq104
  subst e3
  refine W.of fun A s2 hA R2 hV2 => ?_
  obtain ⟨tk, rfl⟩ := rk.inv_str
  refine wb (wpAny_standAt (wpAny_holding (wm (dictSet_cell (c := c.ext F β') (kl := kl) (kk := kk) (r := r) R2 (Up.append _ .head) (rr.mono hV2) (Nat.le_trans (hJ _ _ _ hj) (by rw [sizeLine_eq]; decide))) (fun _ s3 o5 => ?_))))
  exact ⟨_, o5, vs', _, τ'', hvs', hj', rfl⟩
 ·obtain ⟨er, σ', o, vs, kl, τ', hvs, hj, e⟩ := hz2
  subst er e
  obtain ⟨hsu, hn⟩ := hN D kl τ' hj
  exact use_store' (Qf := fun fl s' => Ends c σ s (flow N R fl) s') hL hll (.raw (.ref D)) (.raw _) hsu hA (((o1.trans o2).trans o3).trans o) fun s'' o => ⟨_, o, hn⟩
end
section
variable {c : Cx} {env : Env} {σ σ' τ : Store} {s : Shared} {Q : PV -> Store -> Prop} {N : Store -> Prop} {R : PV -> Store -> Prop} {a : SA} {t : St} {L : Addr} {ns : List Str} {vs : List (Option PV)} {pre post : Store}
theorem At.bound {x dx : Addr} {ns : List Str} {vs : List PV} (B : Base c) (S : Self c x dx) {f : Addr} {name : Str} (hm : (dx, Cell.inst ns vs) ∈ σ) (hn : name ∉ ns)
  (hg : plainGet (KK c.P) TC name = true) (hf : findIn (KK c.P) (.ref TC) name = some (some (.ref f))) (hfn : isFn (KK c.P) (.ref f) = true) (hgf : specialIn (KK c.P) (.ref f) "__get__" = some (some (.builtin "function.__get__"))) (ht : takesIn (KK c.P) (.ref f) = some false)
  (h : ∀ q, Q (.raw (.ref q)) (σ ++ [(q, .obj (methodObj (.ref f) (.ref x)))])) (hc : copiedNames.contains name = false := by decide +kernel) : At c (.raw (.ref x)) name σ Q := fun V va ra A s hA R hV => by
 have := ra.inv_raw
 subst this
 obtain ⟨hl, es, n, hd, hr⟩ := R.inst hm
 have hl0 : lookIn name (dictOf es n) = some Option.none := by rw [lookIn_dict]; unfold getL; rw [hr.miss (by rw [zip_fst hl]; exact hn), hr.noRef]; rfl
 refine get_bind (B.In R.le) (R.instAt S hd) (plainGet_of hg).1 (findObj_fn (K_hd _) hf hgf ht hc hl0) (plainGet_of hg).2 (wpAny_call (fn_get (s := { s with toks := s.toks + 1 }) (B.In R.le) (beq_iff_eq.mp hfn) (handed_on rfl ?_)))
 have o1 := Out.toks R (s.toks + 1) (Nat.le_succ _)
 have o2 := (o1.rep.push_cell (methodObj (.ref f) (.ref x)) (.obj (methodObj (.ref f) (.ref x))) rfl).perm_r snoc_perm
 exact ⟨_, o1.trans o2, _, .raw _, h _⟩
theorem Ca.bound {q : Addr} {f self : Value} {ps : List PV} (hm : (q, Cell.obj (methodObj f self)) ∈ σ) (h : Cc c f (.raw self :: ps) σ Q) : Ca c (.ref q) ps σ Q := fun V vs hv => W.call fun A s hA R hV => by
 obtain ⟨o, ho, rfl⟩ := R.cells _ hm
 exact method_call ho (h V (self :: vs) (.cons (.raw _) hv) A s hA R hV)
theorem E.selfC {x name : Str} {p1 p2 : Pos} {p : PV} {cc : Addr} (B : Base c) (S : Tg c a) (hk : env.scope.kind = .function) (hlc : env.kindOf x = some .cell) (hc : env.cells.lookup x = some cc) (hcm : (cc, Cell.that (CellIs (some (.raw (.ref a.x))))) ∈ σ) (hm : (a.dx, Cell.inst INS (INV a t)) ∈ σ) (hl : Li INS (INV a t) name p) (hb : p.nb = true) (h : Q p σ)
  (hd : autoParam ((x == ("__debug__" : Str)) = false) aDec) : E c env (.Attribute (.Name x p1) name p2) σ Q := by
 obtain ⟨i, h1, h2⟩ := hl.idx
 refine E.attr (E.cell hk hlc hc hcm ?_ hd)
 exact At.inst B S.self i hm INS_nd h1 h2 (List.all_eq_true.mp (INS_own c.P) _ (List.mem_of_getElem? h1)) hb h
inductive Kpo (Q : PV -> Store -> Prop) (p : PV) (σ' : Store) : Prop
 | mk (σ₁ σ₂ : Store) (h : σ₁.Perm σ') (s : σ₂.Sublist σ₁) (q : Q p σ₂) : Kpo Q p σ'
theorem E.postP {e : PySem.Expr} (h : E c env e σ (Kpo Q)) : E c env e σ Q := fun V A s hA R hV =>
 W.onr (h V) hA R hV (fun v s' σ' o p r hq2 => by
  obtain ⟨σ1, σ₂, hp, hs, q⟩ := hq2
  have o' := o.perm_r hp
  have od := Out.sub o'.rep (fun p hp => hs.subset hp) (o'.rep.nodup.sublist (hs.map Prod.fst))
  have hv : VLe (vw c.F σ' s') (vw c.F σ1 s') := ⟨fun b ob e => by
   obtain ⟨e1, e2, e3⟩ := vw_some.mp e
   exact vw_some.mpr ⟨e1, fun q => e2 ((hp.map Prod.fst).mem_iff.mp q), e3⟩, Nat.le_refl _⟩
  exact ⟨σ₂, o'.trans od, p, (r.mono hv).mono od.view, q⟩)
inductive Kcn (cc : Addr) (N : Store -> Prop) (p : PV) (σ : Store) : Prop
 | mk (u : Value) (q : Option PV) (σ₂ : Store) (e : p = .raw u) (h : Up cc (.that (CellIs q)) (.that (CellIs (some p))) σ σ₂) (n : N σ₂) : Kcn cc N p σ
theorem X.cellN {x : Str} {pos' pos : Pos} {e : PySem.Expr} {cc : Addr} (hk : env.scope.kind = .function) (hlc : env.kindOf x = some .cell) (hc : env.cells.lookup x = some cc)
  (h : E c env e σ (Kcn cc N)) (hs : autoParam (swapsWith e (some (.Name x pos')) pos.line env = pure false) aRfl) :
  X c env (.Assign [.Name x pos'] e pos) σ N R := fun V A s hA Rp hV =>
 wpAny_Assign_Name (W.onr (h V) hA Rp hV (fun v s1 σ1 o1 p rp ⟨u, q, σ₂, e, U, hN⟩ =>
  W.on (W.stc (c := c) (Q := fun _ _ σ' => N σ') hk hlc hc rp (.inl ⟨u, e⟩) U (fun _ _ => hN)) hA o1.rep (.refl _) (fun _ s2 σ3 o3 q3 => ⟨σ3, o1.trans o3, q3⟩))) hs
end
noncomputable abbrev Nm := U × Bool
noncomputable def qStep (x : St × List (Nm × Px)) (n : Nm) : Option (St × List (Nm × Px)) := (qn x.1 n.1).map fun r => (qst x.1 n.1 r, x.2 ++ [(n, r.1)])
noncomputable def qRun (x : St × List (Nm × Px)) : List Nm -> Option (St × List (Nm × Px))
 | [] => some x
 | n :: ns => (qStep x n).bind fun y => qRun y ns
theorem qRun_append (x : St × List (Nm × Px)) : ∀ a b : List Nm, qRun x (a ++ b) = (qRun x a).bind fun y => qRun y b := by
 intro a
 induction a generalizing x with
 | nil => intro b; rfl
 | cons n a ih =>
  intro b
  show (qStep x n).bind _ = ((qStep x n).bind _).bind _
  cases qStep x n with
  | none => rfl
  | some y => exact ih y b
noncomputable def qRes (x : Nm × Px) : PV := .tup [.str (wn x.2 x.1.2), .str (lcS x.1.2), .str (uS x.1.1)]
noncomputable def qDict (l : List (Nm × Px)) : List (Str × PV) := l.map fun x => (nmS x.1, qRes x)
theorem qDict_lookup (l : List (Nm × Px)) (n : Nm) : (qDict l).lookup (nmS n) = (l.lookup n).map fun p => qRes (n, p) := by
 unfold qDict
 induction l with
 | nil => rfl
 | cons x l ih =>
  rw [List.map_cons, List.lookup_cons, List.lookup_cons]
  by_cases h : n = x.1
  ·subst h; simp
  ·have h1 : (nmS n == nmS x.1) = false := beq_eq_false_iff_ne.mpr fun e => h (nm_inj e)
   have h2 : (n == x.1) = false := beq_eq_false_iff_ne.mpr h
   simp only [h1, h2, ih]
theorem qDict_new {l : List (Nm × Px)} {n : Nm} {p : Px} (h : n ∉ l.map Prod.fst) : sto (qDict l) (nmS n) (qRes (n, p)) = qDict (l ++ [(n, p)]) := by
 unfold sto
 rw [if_neg]
 ·unfold qDict; rw [List.map_append]; rfl
 ·unfold qDict
  rw [List.any_map, List.any_eq_true]
  rintro ⟨x, hx, e⟩
  have := nm_inj (of_decide_eq_true e)
  exact h (List.mem_map.mpr ⟨x, hx, this⟩)
noncomputable def xnS (p : Px) : Str := if p = 0 then "xmlns" else ("xmlns:" : Str) ++ pS p
noncomputable def atS (x : Str × Str) : Str := (((((Str.empty ++ " ") ++ x.1) ++ "=\"") ++ Sl (escA x.2.cps.toList)) ++ "\"")
noncomputable def anS (l : List (Nm × Px)) (n : Nm) : Str := if n.1 = 0 then lcS n.2 else wn ((l.lookup n).getD 0) n.2
structure Al (al : List (Nm × Str)) : Prop where
 len : al.length <= 3
 nodup : (al.map Prod.fst).Nodup
 short : ∀ x ∈ al, x.2.length <= 20
noncomputable abbrev alD (al : List (Nm × Str)) : List (Str × PV) := al.map fun x => (nmS x.1, .str x.2)
noncomputable def stSt (t : St) (tg : Str) (ats : List (Str × Str)) (b : Bool) (bN : Addr) : St :=
 { t with out := t.out ++ [("<" : Str) ++ tg] ++ (if ats = [] then [] else [catS (ats.map atS)]) ++ [(">" : Str)], ps := t.ps ++ [b], seen := true, N := t.N ++ [(bN, [])] }
noncomputable abbrev NS : List Str := ["tag", "attrs", "new_namespaces", "qname_text", "k", "v", "qnames", "resolved_names", "qname", "qattrs", "attr_name", "value", "parsed_qnames", "uri", "attr_list", "attr_qname", "space_behaviour", "write"]
noncomputable def fd119 : FuncData := getFd (a := 119) rfl
noncomputable def bd119 : List Stmt := getBody (fd := fd119) rfl
theorem at119 (P : Params) : FnAt P 119 fd119 := by kernel_rfl
theorem cd119 (P : Params) : codeIn (KK P) fd119.code fd119.qualname = true := by kernel_rfl
section
variable {c : Cx} {env : Env} {σ σ' τ : Store} {s : Shared} {Q : PV -> Store -> Prop} {N : Store -> Prop} {R : PV -> Store -> Prop} {a : SA} {t : St} {L : Addr} {pre post Z : Store}
noncomputable def atF : PV -> PV
 | .tup [.str k, .str v] => .str (atS (k, v))
 | _ => .none
theorem atF_map (ats : List (Str × Str)) : ((ats.map pp).filter (fun _ => true)).map atF = (ats.map atS).map .str := by
 rw [List.filter_eq_self.mpr (by simp), List.map_map, List.map_map]
 rfl
theorem newN_perm {a : SA} {t : St} {Z post : Store} {p : Addr × Cell} {bN : Addr} : (p :: (Z ++ (Sf a { t with N := t.N ++ [(bN, [])] } ++ post))).Perm (p :: (bN, .list []) :: (Z ++ (SfX a { t with N := t.N ++ [(bN, [])] } (lsts (pl t.D) ++ lsts (pl t.N)) ++ post))) := by
 refine .cons _ ?_
 have e : Sf a { t with N := t.N ++ [(bN, [])] } = SfX a { t with N := t.N ++ [(bN, [])] } (lsts (pl t.D) ++ lsts (pl t.N)) ++ [(bN, .list [])] := by
  unfold Sf SfX
  rw [lsts_snoc]
  simp
 rw [e]
 have e2 : Z ++ (SfX a { t with N := t.N ++ [(bN, [])] } (lsts (pl t.D) ++ lsts (pl t.N)) ++ [(bN, .list [])] ++ post) = (Z ++ SfX a { t with N := t.N ++ [(bN, [])] } (lsts (pl t.D) ++ lsts (pl t.N))) ++ (bN, .list []) :: post := by simp
 rw [e2, <- List.append_assoc Z]
 exact List.perm_middle
theorem atS_len {x : Str × Str} (h1 : x.1.length <= 100) (h2 : x.2.length <= 100) : (atS x).length <= 704 := by
 have e : (Sl (escA x.2.cps.toList)).length <= 600 := by
  rw [Sl_len]
  have := (escA_len x.2.cps.toList).1
  have h3 : x.2.cps.toList.length = x.2.length := by simp [Str.length]
  lia
 have l1 : (" " : Str).length = 1 := rfl
 have l2 : ("=\"" : Str).length = 2 := rfl
 have l3 : ("\"" : Str).length = 1 := rfl
 have l0 : Str.empty.length = 0 := rfl
 unfold atS
 simp only [str_len_append]
 lia
theorem sum_le {α : Type} {f : α -> Nat} {n : Nat} : ∀ {l : List α}, (∀ x ∈ l, f x <= n) -> (l.map f).sum <= n * l.length
 | [], _ => by simp
 | x :: l, h => by
  have h1 := h x (.head _)
  have h2 := sum_le (l := l) fun y hy => h y (.tail _ hy)
  rw [List.map_cons, List.sum_cons, List.length_cons, Nat.mul_succ]
  lia
theorem E.compF {elt target iter : PySem.Expr} {ifs : List PySem.Expr} {scope : Scope} {pos : Pos} {cl : List (Str × Addr)} {ns : List Str} (ok : CompOk env scope cl ns)
  (h : (∀ C, Fm (compEnvC scope cl C env) C ns) -> E c env iter σ (Kcm c (fun C => compEnvC scope cl C env) target elt ifs ns Q))
  (ht : autoParam (LetsOk target) aLet) (hs : autoParam (∀ x, foldedSetIterable iter env x = pure x) aIr) :
  E c env (.ListComp elt [⟨target, iter, ifs, 0⟩] scope pos) σ Q := E.comp ok (h fun C => ⟨ok.lo C, rfl⟩) ht hs
theorem start_end {tg n : Str} {da nn dp dl : Addr} {k v qn' rs q qa an va ur aq : Option PV} {kl dal : List (Str × PV)} {x1 x2 : PV} {ats : List (Str × Str)} {ps' : List Bool} {b : Bool} {cs : Addr} (B : Base c) (S : Tg c a) (hd : c.d + 1 < recursionLimit)
  (F : Fm (callEnvC fd119 L 119) L NS) (hcs : (callEnvC fd119 L 119).cells.lookup ("self" : Str) = some cs) (hself : (cs, Cell.that (CellIs (some (.raw (.ref a.x))))) ∈ Z)
  (hdp : (dp, Cell.dict kl) ∈ Z) (hdl : (dl, Cell.list (ats.map pp)) ∈ Z) (hda : (da, Cell.dict dal) ∈ Z) (hn : kl.lookup n = some (.tup [.str tg, x1, x2])) (htl : tg.length <= 100) (hsp : dal.lookup ("{http://www.w3.org/XML/1998/namespace}space" : Str) = none)
  (hats : ats.length <= 8) (hal : ∀ x ∈ ats, x.1.length <= 100 /\ x.2.length <= 100) (hps : t.ps = ps' ++ [b]) (hpl : t.ps.length <= 1000) (hol : t.out.length <= 10000) (hNl : t.N.length <= 1000)
  (h : ∀ bN, fin Q .none (Z ++ (Sf a (stSt t tg ats b bN) ++ post))) :
  Xs c (callEnvC fd119 L 119) (bd119.drop 9) ((L, .loc NS [some (.str n), some (.raw (.ref da)), some (.raw (.ref nn)), some .none, k, v, qn', rs, q, qa, an, va, some (.raw (.ref dp)), ur, some (.raw (.ref dl)), aq, none, none]) :: (Z ++ (Sf a t ++ post))) (fun σ' => fin Q .none σ') (fin Q) := by
 have hm : ∀ {t : St} {p}, p ∈ Sf a t -> p ∈ Z ++ (Sf a t ++ post) := fun hp => in_mid hp
 have hX : ∀ {t : St} {p}, p ∈ Z -> p ∈ Z ++ (Sf a t ++ post) := fun hp => memL _ hp
 refine Xs.cons (X.nm F (E.meth (E.n F (Gm.get (.tail _ (hX hda)) (Es.cons (E.str (Es.nil ⟨.builtin, Ca.get (.tail _ (hX hda)) ?_⟩)) rfl)))))
 rw [hsp, Option.getD_none]
 refine ⟨_, _, _, rfl, by trivial, ?_⟩
 refine Xs.cons (X.expr (E.meth (E.selfC (t := t) B S rfl rfl hcs (.tail _ (hX hself)) (.tail _ (hm Sf_inst)) (by trivial) (by rfl) (Gm.append (.tail _ (hm (Sf_ps (x := [])).mem)) (Es.cons (E.ifexp (T.val (E.n F (Tr.none ?_)))) rfl)))))
 rw [if_neg (by simp)]
 have hpc : (a.ps, Cell.list (ps'.map .bool ++ [.bool b])) ∈ Sf a t := by
  have := (Sf_ps (a := a) (t := t) (x := [])).mem
  rw [hps] at this
  simpa using this
 refine E.sub (E.selfC (t := t) B S rfl rfl hcs (.tail _ (hX hself)) (.tail _ (hm Sf_inst)) (by trivial) (by rfl) (E.neg (It.last (.tail _ (hm hpc)) (Es.nil ⟨.builtin, Ca.append (.tail (up_mid (Sf_ps (x := t.ps ++ [b])) |> fun U => by rw [List.map_append] at U; exact U)) (le_sz (by rw [lnM]; lia)) ?_⟩))))
 have hm1 : ∀ {p}, p ∈ Sf a { t with ps := t.ps ++ [b] } -> p ∈ Z ++ (Sf a { t with ps := t.ps ++ [b] } ++ post) := fun hp => in_mid hp
 refine Xs.cons (X.nm F (E.selfC (t := { t with ps := t.ps ++ [b] }) B S rfl rfl hcs (.tail _ (hX hself)) (.tail _ (hm1 Sf_inst)) (by trivial) (by rfl) ⟨_, _, _, rfl, by trivial, ?_⟩))
 refine Xs.cons (X.expr (E.call (E.n F ⟨_, rfl, Es.cons (E.binop (E.str (E.sub (E.sub (E.n F (E.n F (It.dict (.tail _ (hX hdp)) hn (E.int (It.tup (j := 0) (by decide) (by decide) rfl rfl (Bin.add_str ?_ (Es.nil ⟨.bm S.wr, ?_⟩))))))))))) rfl⟩)))
 ·rw [sizeLine_eq]; have : ("<" : Str).length = 1 := rfl; lia
 refine Ca.write (t := { t with ps := t.ps ++ [b] }) (pre := (L, _) :: Z) S (show t.out.length <= 100000 by lia) ?_
 have fin3 : ∀ t2 : St, t2.out.length <= 20000 -> (∀ bN, fin Q .none (Z ++ (Sf a { t2 with out := t2.out ++ [(">" : Str)], seen := true, N := t2.N ++ [(bN, [])] } ++ post))) -> t2.N.length <= 1000 -> Xs c (callEnvC fd119 L 119) (bd119.drop 14) ((L, .loc NS [some (.str n), some (.raw (.ref da)), some (.raw (.ref nn)), some .none, k, v, qn', rs, q, qa, an, va, some (.raw (.ref dp)), ur, some (.raw (.ref dl)), aq, some .none, some (.raw (.ref a.b))]) :: (Z ++ (Sf a t2 ++ post))) (fun σ' => fin Q .none σ') (fin Q) := fun t2 ho2 h₂ hN2 => by
  refine Xs.cons (X.expr (E.call (E.n F ⟨_, rfl, Es.cons (E.str (Es.nil ⟨.bm S.wr, ?_⟩)) rfl⟩)))
  refine Ca.write (t := t2) (pre := (L, _) :: Z) S (show t2.out.length <= 100000 by lia) ?_
  refine Xs.cons (X.iff (T.cmp (E.n F (E.none (Cmp.isnt_none (Tr.bool ?_))))))
  rw [if_neg (by simp)]
  refine Xs.nil (Xs.cons (X.setattr (E.bool (E.cell rfl rfl hcs (.tail _ (hX hself)) fun V vo vp ro rp => ?_))))
  have := ro.inv_raw
  subst this
  have ht : takerIn (KK c.P) TC "_root_seen" = some Option.none := by simpa using List.all_eq_true.mp (INS_set c.P) "_root_seen" (by decide)
  refine W.setInst B S.self 14 rp (.tail (up_mid (Sf_seen (t := { t2 with out := t2.out ++ [(">" : Str)] }) (b := true)))) INS_nd rfl rfl ht (by decide) fun _ _ => ?_
  generalize ht3 : ({ t2 with out := t2.out ++ [(">" : Str)], seen := true } : St) = t3
  have hN3 : t3.N = t2.N := by rw [<- ht3]
  have hm3 : ∀ {p}, p ∈ Sf a t3 -> p ∈ Z ++ (Sf a t3 ++ post) := fun hp => in_mid hp
  refine Xs.cons (X.expr (E.postP (E.meth (E.selfC (t := t3) B S rfl rfl hcs (.tail _ (hX hself)) (.tail _ (hm3 Sf_inst)) (by trivial) (by rfl) (Gm.append (.tail _ (hm3 Sf_N)) (Es.cons (E.list (Es.nil ⟨le_sz (by simp), _, _, rfl, fun bN => Es.nil ⟨.builtin, ?_⟩⟩)) rfl))))))
  have U : Up a.N (.list (refs (pl t3.N))) (.list (refs (pl t3.N) ++ [.raw (.ref bN)])) (Sf a t3) (SfX a { t3 with N := t3.N ++ [(bN, [])] } (lsts (pl t3.D) ++ lsts (pl t3.N))) := by
   rw [show refs (pl t3.N) ++ [PV.raw (.ref bN)] = refs (pl (t3.N ++ [(bN, [])])) from (refs_snoc t3.N (bN, [])).symm]
   exact .tail (.tail (.tail (.tail (.tail (.tail .head)))))
  refine Ca.append (.tail (.tail (up_mid U))) ?_ ⟨_, _, newN_perm, .refl _, ?_⟩
  ·unfold refs pl; rw [lnM, lnM, hN3]; exact le_sz (by lia)
  refine Xs.nil ?_
  obtain ⟨σ'', hs, hq⟩ := h₂ bN
  refine ⟨σ'', .cons _ ?_, hq⟩
  rw [<- ht3]
  exact hs
 generalize ht1 : ({ ({ t with ps := t.ps ++ [b] } : St) with out := ({ t with ps := t.ps ++ [b] } : St).out ++ [("<" : Str) ++ tg] } : St) = t1
 have ho1 : t1.out.length <= 10001 := by rw [<- ht1]; show (t.out ++ _).length <= _; rw [List.length_append]; simp; lia
 have hN1 : t1.N = t.N := by rw [<- ht1]
 have hats' : (ats.map pp).length <= 8 := by rw [lnM]; exact hats
 refine Xs.cons (X.iff (T.val (E.n F (Tr.list (.tail _ (hX hdl)) (le_sz (by lia)) ?_))))
 by_cases hA : ats = []
 ·subst hA
  rw [if_neg (by simp)]
  refine Xs.nil (fin3 t1 (by lia) (fun bN => ?_) (by rw [hN1]; exact hNl))
  have := h bN
  unfold stSt at this
  simp only [if_true, List.append_nil] at this
  rw [<- ht1]
  exact this
 ·rw [if_pos (by simp [hA])]
  have hsum : ((ats.map atS).map (·.length)).sum <= 8000 := by
   rw [List.map_map]
   have := sum_le (f := fun x => (atS x).length) (n := 704) (l := ats) fun x hx => atS_len (hal x hx).1 (hal x hx).2
   have h8 : 704 * ats.length <= 704 * 8 := Nat.mul_le_mul_left _ hats
   exact Nat.le_trans this (by lia)
  refine Xs.cons (X.expr (E.call (E.n F ⟨_, rfl, Es.cons (E.meth (E.str (Gm.join (Es.cons (E.compF (ns := ["k", "v"]) (CompOk.of (closureFor_nil (by decide +kernel)) (by decide +kernel) rfl (by kernel_rfl) (by decide) rfl) fun FC => E.n F ?_) rfl)))) rfl⟩)))
  refine ⟨ats.map pp, _, fun _ => true, atF, Itb.list (.tail _ (hX hdl)), fun σ' hσ => hσ _ (.tail _ (hX hdl)), le_sz (by lia), ?_, ?_⟩
  ·intro F' β' hb C q vs hq hvs
   obtain ⟨v1, v2, rfl⟩ := len2 hvs
   obtain ⟨x, hx, rfl⟩ := List.mem_map.mp hq
   have F2 := FC C
   obtain ⟨h1, h2⟩ := hal x hx
   have hl := atS_len h1 h2
   have B2 : Base (c.ext F' β') := B.ext hb
   unfold atS at hl
   simp only [str_len_append] at hl
   refine Asg.tuple (Asg.name F2.lo rfl .head (Asg.name F2.lo rfl (.tail .head) ⟨_, rfl, rfl, fun V => tests_nil fun _ _ => ⟨rfl, rfl⟩, fun _ => ?_⟩)) rfl
   refine E.fstr (Jo.cons (E.str ⟨_, rfl, ?_, Jo.cons (E.fmt (E.n F2 ⟨_, rfl, ?_, _, rfl, ?_, Jo.cons (E.str ⟨_, rfl, ?_, Jo.cons (E.fmt (E.call (E.globK B2 rfl rfl rfl (by kernel_rfl) ⟨_, rfl, Es.cons (E.n F2 (Es.nil ⟨.fn B2 (at161 _), ?_⟩)) rfl⟩)))⟩)⟩))⟩))
   ·exact le_sz (by rw [str_len_append]; lia)
   ·exact le_sz (by lia)
   ·exact le_sz (by rw [str_len_append, str_len_append]; lia)
   ·exact le_sz (by rw [str_len_append, str_len_append, str_len_append]; lia)
   ·show Ca _ _ [.str (Sl x.2.cps.toList)] _ _
    refine Ca161 B2 (show c.d < recursionLimit by omega) (by have h3 : x.2.cps.toList.length = x.2.length := (by simp [Str.length]); lia) ⟨_, rfl, ?_, _, rfl, ?_, Jo.cons (E.str ⟨_, rfl, ?_, Jo.nil ?_ ⟨rfl, rfl⟩⟩)⟩
    ·exact le_sz (by lia)
    ·exact le_sz (by simp only [str_len_append]; lia)
    ·exact le_sz (by simp only [str_len_append]; lia)
    ·exact le_sz (by simp only [str_len_append]; lia)
  ·rw [atF_map]
   refine Es.nil ⟨.builtin, Ca.join .lst (le_sz (by lia)) (Es.nil ⟨.bm S.wr, ?_⟩)⟩
   refine Ca.write (t := t1) (pre := (L, _) :: Z) S (show t1.out.length <= 100000 by lia) ?_
   refine Xs.nil (fin3 _ (by show (t1.out ++ _).length <= _; rw [List.length_append]; simp; lia) (fun bN => ?_) (by show t1.N.length <= _; rw [hN1]; exact hNl))
   have := h bN
   unfold stSt at this
   simp only [hA, if_false] at this
   rw [<- ht1]
   exact this
end
noncomputable def alP (al : List (Nm × Str)) : List Nat := srtP al.length fun i j => pLt ((al.map fun x => (nmS x.1, x.2)).getD i ("", "")) ((al.map fun x => (nmS x.1, x.2)).getD j ("", ""))
noncomputable def alS (al : List (Nm × Str)) : List (Nm × Str) := pick al (alP al)
noncomputable def xnL (nnl : List (U × Px)) : List (Str × Str) := srtL (nnl.map fun x => (xnS x.2, uS x.1))
noncomputable def atL (l : List (Nm × Px)) (nnl : List (U × Px)) (al : List (Nm × Str)) : List (Str × Str) := xnL nnl ++ (alS al).map fun x => (anS l x.1, x.2)
section
variable {c : Cx} {env : Env} {σ σ' τ : Store} {s : Shared} {Q : PV -> Store -> Prop} {N : Store -> Prop} {R : PV -> Store -> Prop} {a : SA} {t : St} {L : Addr} {pre post Z : Store}
theorem X.compF {elt target iter : PySem.Expr} {ifs : List PySem.Expr} {scope : Scope} {y : Str} {py pos spos : Pos} {cl : List (Str × Addr)} {ns0 ns : List Str} {L : Addr} (ok : CompOk env scope cl ns) (hL : Lo env ns0) (hll : env.locals = L)
  (h : (∀ C, Fm (compEnvC scope cl C env) C ns) -> E c env iter σ (Kxc c (fun C => compEnvC scope cl C env) target elt ifs ns L ns0 y N))
  (hsw : autoParam (swapsWith (.ListComp elt [⟨target, iter, ifs, 0⟩] scope pos) (some (.Name y py)) spos.line env = pure true) aRfl)
  (ht : autoParam (LetsOk target) aLet) (hs : autoParam (∀ x, foldedSetIterable iter env x = pure x) aIr) :
  X c env (.Assign [.Name y py] (.ListComp elt [⟨target, iter, ifs, 0⟩] scope pos) spos) σ N R := X.comp ok hL hll (h fun C => ⟨ok.lo C, rfl⟩) hsw ht hs
noncomputable def nnF : PV -> PV
 | .tup [.str u, .str p] => pp (if p.length ≠ 0 then ("xmlns:" : Str) ++ p else "xmlns", u)
 | _ => .none
theorem nnF_map (l : List (U × Px)) : ((l.map pr).filter (fun _ => true)).map nnF = (l.map fun x => (xnS x.2, uS x.1)).map pp := by
 rw [List.filter_eq_self.mpr (by simp), List.map_map, List.map_map]
 refine List.map_congr_left fun x _ => ?_
 show pp (if (pS x.2).length ≠ 0 then ("xmlns:" : Str) ++ pS x.2 else "xmlns", uS x.1) = pp (xnS x.2, uS x.1)
 have := pS_0 x.2
 unfold xnS
 by_cases h : x.2 = 0
 ·rw [if_pos h, if_neg (by rw [h]; decide +kernel)]
 ·rw [if_neg h, if_pos (by simpa [h] using this)]
theorem front_perm {p d : Addr × Cell} {τ : Store} : (p :: d :: τ).Perm ((p :: τ) ++ [d]) := by
 refine .cons _ ?_
 exact snoc_perm.symm
theorem start_ns {tg : PV} {da dp b : Addr} {k v qn' rs q qa an va ur al : Option PV} {nnl : List (U × Px)} (B : Base c) (hu : c.u < 8000)
  (F : Fm (callEnvC fd119 L 119) L NS) (hb : (b, Cell.list (nnl.map pr)) ∈ Z ++ (Sf a t ++ post)) (hn : nnl.length <= 4)
  (h : ∀ dl, Xs c (callEnvC fd119 L 119) (bd119.drop 8) ((L, .loc NS [some tg, some (.raw (.ref da)), some (.raw (.ref b)), some .none, k, v, qn', rs, q, qa, an, va, some (.raw (.ref dp)), ur, some (.raw (.ref dl)), none, none, none]) :: (((dl, .list ((xnL nnl).map pp)) :: Z) ++ (Sf a t ++ post))) N R) :
  Xs c (callEnvC fd119 L 119) (bd119.drop 7) ((L, .loc NS [some tg, some (.raw (.ref da)), some (.raw (.ref b)), some .none, k, v, qn', rs, q, qa, an, va, some (.raw (.ref dp)), ur, al, none, none, none]) :: (Z ++ (Sf a t ++ post))) N R := by
 refine Xs.cons (X.iff (T.val (E.n F (Tr.list (.tail _ hb) (le_sz (by rw [lnM]; lia)) ?_))))
 by_cases hA : nnl = []
 ·subst hA
  rw [if_neg (by simp)]
  refine Xs.cons (X.nm F (E.list (Es.nil ⟨le_sz (by simp), _, _, rfl, fun dl => ⟨_, _, _, rfl, by trivial, Xs.nil (h dl)⟩⟩)))
 ·rw [if_pos (by simp [hA])]
  refine Xs.cons (X.compF (ns := ["uri", "prefix"]) (CompOk.of (closureFor_nil (by decide +kernel)) (by decide +kernel) rfl (by kernel_rfl) (by decide) rfl) F.lo F.loc fun FC => E.n F ?_)
  refine ⟨nnl.map pr, _, fun _ => true, nnF, _, fun D => _, _, Itb.list (.tail _ hb), fun σ' hσ => hσ _ (.tail _ hb), le_sz (by rw [lnM]; lia), ?_, rfl, fun D => ⟨by trivial, ?_⟩⟩
  ·intro F' β' hb' C q vs hq hvs
   obtain ⟨v1, v2, rfl⟩ := len2 hvs
   obtain ⟨x, hx, rfl⟩ := List.mem_map.mp hq
   have F2 := FC C
   refine Asg.tuple (Asg.name F2.lo rfl .head (Asg.name F2.lo rfl (.tail .head) ⟨_, rfl, rfl, fun V => tests_nil fun _ _ => ⟨rfl, rfl⟩, fun _ => ?_⟩)) rfl
   have l1 := pS_len x.2
   have l2 : ("xmlns:" : Str).length = 6 := rfl
   refine E.tuple (Es.cons (E.ifexp (T.val (E.nm F2 (by trivial) (Tr.str (le_sz (by lia)) ?_)))) rfl)
   by_cases hp : (pS x.2).length = 0
   ·rw [if_neg (by simp [hp])]
    refine E.str (Es.cons (E.n F2 (Es.nil ⟨le_sz (by simp), ?_, rfl⟩)) rfl)
    show PV.tup _ = pp (if (pS x.2).length ≠ 0 then _ else _, _)
    rw [if_neg (by simp [hp])]
    rfl
   ·rw [if_pos (by simp [hp])]
    refine E.binop (E.str (E.nm F2 (by trivial) (Bin.add_str (le_sz (by lia)) (Es.cons (E.nm F2 (by trivial) (Es.nil ⟨le_sz (by simp), ?_, rfl⟩)) rfl))))
    show PV.tup _ = pp (if (pS x.2).length ≠ 0 then _ else _, _)
    rw [if_pos hp]
    rfl
  ·refine Xs.perm front_perm ?_
   rw [nnF_map]
   refine Xs.cons (X.expr (E.meth (E.n F (Gm.sort (.tail _ (.head _)) (Es.nil ⟨.builtin, Ca.sort (pre := [_]) hu (Sorts.pairs (by rw [lnM]; exact hn)) fun pm hpm _ => ?_⟩)))))
   subst hpm
   rw [pick_map]
   exact Xs.nil (h D)
end
theorem alD_pairs (al : List (Nm × Str)) : (alD al).map pairOf = (al.map fun x => (nmS x.1, x.2)).map pp := by
 unfold alD
 rw [List.map_map, List.map_map]
 rfl
theorem alS_perm {al : List (Nm × Str)} (h : (alP al).Perm (List.range al.length)) : (alS al).Perm al := pick_perm h
section
variable {c : Cx} {env : Env} {σ σ' τ : Store} {s : Shared} {Q : PV -> Store -> Prop} {N : Store -> Prop} {R : PV -> Store -> Prop} {a : SA} {t : St} {L : Addr} {pre post Z Y : Store}
theorem E.sortedItems {e : PySem.Expr} {al : List (Nm × Str)} {da : Addr} {p1 p2 p3 p4 : Pos} (B : Base c) (hu : c.u < 8000) (hk : env.scope.kind = .function) (hx : env.kindOf "sorted" = some .globalImplicit) (hg : env.globals = mainGlobals) (hbu : env.builtins = builtinsNs)
  (hl : al.length <= 4) (he : E c env e σ (fun p σ1 => p = .raw (.ref da) /\ σ1 = σ)) (hda : (da, Cell.dict (alD al)) ∈ σ) (h : (alS al).Perm al -> Q (.lst ((alS al).map fun x => pp (nmS x.1, x.2))) σ)
  (hm : autoParam (∃ pl, eval (.Call (.Attribute e "items" p2) [] [] p3) env = (do
   let ov <- eval e env
   standAt p2.atName
   let (f, first) <- holding [ov] (getMethod ov "items" pl)
   callWith p3 f first (backTo p3 (starEach [] env)) [])) aEx)
  (hs2 : autoParam (starEach [PySem.Expr.Call (.Attribute e "items" p2) [] [] p3] env = (false, eval (.Call (.Attribute e "items" p2) [] [] p3) env) :: starEach [] env) aRfl)
  (hst : autoParam ((backTo p4 (starEach [PySem.Expr.Call (.Attribute e "items" p2) [] [] p3] env)).any (·.1) = false) aRfl) :
  E c env (.Call (.Name "sorted" p1) [.Call (.Attribute e "items" p2) [] [] p3] [] p4) σ Q := by
 obtain ⟨pl, hm⟩ := hm
 refine E.post (E.call (E.globB B hk hx hg hbu (by kernel_rfl) rfl ⟨_, rfl, Es.cons (E.meth (E.mono he fun p σ1 ⟨e1, e2⟩ => ?_) hm rfl) hs2⟩) hst)
 subst e1 e2
 refine Gm.items hda (Es.nil ⟨.builtin, Ca.items hda fun v => Es.nil ⟨.builtin, ?_⟩⟩)
 refine Ca.sorted (P := fun l' => l' = (alD al).map pairOf) (Pp := fun _ p => p = alP al) hu (Col.items (d := da) (l := alD al) (memR _ (.head _)) (memL _ hda) (le_sz (by unfold alD; rw [lnM]; lia))) (fun l hl' => ?_) (fun l pm hl' hp hpm => ?_)
 ·subst hl'
  rw [alD_pairs]
  have := Sorts.pairs (c := c) (l := al.map fun x => (nmS x.1, x.2)) (by rw [lnM]; exact hl)
  rw [lnM] at this
  exact this
 ·subst hl' hp
  rw [alD_pairs, pick_map, pick_map, List.map_map]
  refine ⟨σ1, List.sublist_append_left _ _, h (alS_perm ?_)⟩
  rw [alD_pairs, lnM, lnM] at hpm
  exact hpm
theorem start_at {tg : PV} {da dp b dl : Addr} {k v qn' rs q an va ur aq : Option PV} {l : List (Nm × Px)} {al : List (Nm × Str)} {xs : List (Str × Str)} (B : Base c) (hu : c.u < 8000)
  (F : Fm (callEnvC fd119 L 119) L NS) (hda : (da, Cell.dict (alD al)) ∈ Y) (hdp : (dp, Cell.dict (qDict l)) ∈ Y) (hal : al.length <= 3) (hin : ∀ x ∈ al, ∃ p, l.lookup x.1 = some p) (hxs : xs.length <= 4)
  (h : ∀ k v an ur aq, Xs c (callEnvC fd119 L 119) (bd119.drop 9) ((L, .loc NS [some tg, some (.raw (.ref da)), some (.raw (.ref b)), some .none, k, v, qn', rs, q, some .none, an, va, some (.raw (.ref dp)), ur, some (.raw (.ref dl)), aq, none, none]) :: (dl, .list ((xs ++ (alS al).map fun x => (anS l x.1, x.2)).map pp)) :: Y) N R) :
  Xs c (callEnvC fd119 L 119) (bd119.drop 8) ((L, .loc NS [some tg, some (.raw (.ref da)), some (.raw (.ref b)), some .none, k, v, qn', rs, q, some .none, an, va, some (.raw (.ref dp)), ur, some (.raw (.ref dl)), aq, none, none]) :: (dl, .list (xs.map pp)) :: Y) N R := by
 refine Xs.cons (X.iff (T.val (E.n F (Tr.dict' (.tail _ (.tail _ hda)) (le_sz (by unfold alD; rw [lnM]; lia)) ?_))))
 by_cases hA : al = []
 ·subst hA
  rw [if_neg (by simp [alD])]
  have := h k v an ur aq
  rw [show alS [] = [] from rfl, List.map_nil, List.append_nil] at this
  exact Xs.nil this
 ·rw [if_pos (by cases al <;> simp_all [alD])]
  refine Xs.cons (X.for (E.sortedItems (al := al) B hu rfl rfl rfl rfl (by lia) (E.n F ⟨rfl, rfl⟩) (.tail _ (.tail _ hda)) fun hperm => ?_))
  let ρ (i : Nat) (k v an ur aq : Option PV) : Store := (L, .loc NS [some tg, some (.raw (.ref da)), some (.raw (.ref b)), some .none, k, v, qn', rs, q, some .none, an, va, some (.raw (.ref dp)), ur, some (.raw (.ref dl)), aq, none, none]) :: (dl, .list ((xs ++ ((alS al).take i).map fun x => (anS l x.1, x.2)).map pp)) :: Y
  refine ⟨_, _, fun i σ' => ∃ k v an ur aq, σ' = ρ i k v an ur aq, Itb.lst, ⟨k, v, an, ur, aq, by simp [ρ]⟩, fun _ _ _ => trivial, ?_, ?_⟩
  ·rintro Fr β hb i q' σ' hq' ⟨k, v, an, ur, aq, rfl⟩
   rw [List.getElem?_map] at hq'
   obtain ⟨z, hz, rfl⟩ := Option.map_eq_some_iff.mp hq'
   have hzm : z ∈ al := hperm.mem_iff.mp (List.mem_of_getElem? hz)
   have hlen : ((alS al).take i).length <= 3 := by
    rw [List.length_take, hperm.length_eq]; lia
   have htake : (alS al).take (i + 1) = (alS al).take i ++ [z] := by rw [List.take_add_one, hz]; rfl
   obtain ⟨p, hp⟩ := hin z hzm
   have hlk : (qDict l).lookup (nmS z.1) = some (qRes (z.1, p)) := by rw [qDict_lookup, hp]; rfl
   have l1 := uS_len z.1.1
   refine Asg.tuple (Asg.name F.lo F.loc (by trivial) (Asg.name F.lo F.loc (by trivial) ?_)) rfl
   refine Xs.cons (X.iff (T.and (and_cons (T.cmp (E.n F (E.none (Cmp.isnt_none (Tr.bool ?_))))))))
   rw [if_neg (by simp), if_neg (by simp)]
   refine Xs.nil (Xs.cons (X.asgT (E.sub (E.n F (E.n F (It.dict (.tail _ (.tail _ hdp)) hlk (Asg.tuple (Asg.name F.lo F.loc (by trivial) (Asg.name F.lo F.loc (by trivial) (Asg.name F.lo F.loc (by trivial) ?_))) rfl)))))))
   have ap : ∀ x : Str, x = anS l z.1 -> Xs (c.ext Fr β) (callEnvC fd119 L 119) [] (ρ (i + 1) (some (.str (nmS z.1))) (some (.str z.2)) (some (.str (lcS z.1.2))) (some (.str (uS z.1.1))) (some (.str (wn p z.1.2)))) (fun σ' => ∃ k v an ur aq, σ' = ρ (i + 1) k v an ur aq) R := fun x _ => Xs.nil ⟨_, _, _, _, _, rfl⟩
   have up : ∀ x : Str, x = anS l z.1 -> Up dl (.list ((xs ++ ((alS al).take i).map fun x => (anS l x.1, x.2)).map pp)) (.list ((xs ++ ((alS al).take i).map fun x => (anS l x.1, x.2)).map pp ++ [.tup [.str x, .str z.2]])) (ρ i (some (.str (nmS z.1))) (some (.str z.2)) (some (.str (lcS z.1.2))) (some (.str (uS z.1.1))) (some (.str (wn p z.1.2)))) (ρ (i + 1) (some (.str (nmS z.1))) (some (.str z.2)) (some (.str (lcS z.1.2))) (some (.str (uS z.1.1))) (some (.str (wn p z.1.2)))) := fun x hx => by
    have e : (xs ++ ((alS al).take (i + 1)).map fun x => (anS l x.1, x.2)).map pp = (xs ++ ((alS al).take i).map fun x => (anS l x.1, x.2)).map pp ++ [.tup [.str x, .str z.2]] := by
     rw [htake, hx, List.map_append, List.map_append, List.map_append, List.map_append, List.append_assoc]
     rfl
    show Up dl _ _ (_ :: _ :: _) (_ :: _ :: _)
    rw [e]
    exact .tail .head
   have sz : ((xs ++ ((alS al).take i).map fun x => (anS l x.1, x.2)).map pp).length <= sizeLine := by
    rw [lnM, List.length_append, lnM]; exact le_sz (by lia)
   refine Xs.cons (X.expr (E.meth (E.n F (Gm.append (.tail _ (.head _)) (Es.cons (E.tuple (Es.cons (E.ifexp (T.val (E.n F (Tr.str (le_sz (show (uS z.1.1).length <= 16777216 by lia)) ?_)))) rfl)) rfl)))))
   rw [uS_0]
   by_cases h0 : z.1.1 = 0
   ·rw [if_neg (by simp [h0])]
    have hx : lcS z.1.2 = anS l z.1 := by unfold anS; rw [if_pos h0]
    exact E.n F (Es.cons (E.n F (Es.nil ⟨le_sz (by simp), Es.nil ⟨.builtin, Ca.append (up _ hx) sz (ap _ hx)⟩⟩)) rfl)
   ·rw [if_pos (by simp [h0])]
    have hx : wn p z.1.2 = anS l z.1 := by unfold anS; rw [if_neg h0, hp]; rfl
    exact E.n F (Es.cons (E.n F (Es.nil ⟨le_sz (by simp), Es.nil ⟨.builtin, Ca.append (up _ hx) sz (ap _ hx)⟩⟩)) rfl)
  ·rintro σ' ⟨k, v, an, ur, aq, rfl⟩
   rw [lnM]
   have := h k v an ur aq
   refine Xs.nil ?_
   show Xs _ _ _ (_ :: (dl, .list ((xs ++ ((alS al).take (alS al).length).map fun x => (anS l x.1, x.2)).map pp)) :: Y) _ _
   rw [List.take_length]
   exact this
end
noncomputable def nds (n0 : Nm) (al : List (Nm × Str)) : List Nm := al.foldl (fun L x => if x.1 ∈ L then L else L ++ [x.1]) [n0]
theorem insAll_nds (n0 : Nm) (al : List (Nm × Str)) : insAll [nmS n0] (alD al) = (nds n0 al).map nmS := by
 have go : ∀ (al : List (Nm × Str)) (L : List Nm), insAll (L.map nmS) (alD al) = (al.foldl (fun L x => if x.1 ∈ L then L else L ++ [x.1]) L).map nmS := by
  intro al
  induction al with
  | nil => intro L; rfl
  | cons x al ih =>
   intro L
   have e : ins (L.map nmS) (nmS x.1) = (if x.1 ∈ L then L else L ++ [x.1]).map nmS := by
    unfold ins
    by_cases h : x.1 ∈ L
    ·rw [if_pos h, if_pos (List.mem_map_of_mem h)]
    ·rw [if_neg h, if_neg, List.map_append]
     ·rfl
     ·intro hm
      obtain ⟨y, hy, e⟩ := List.mem_map.mp hm
      exact h (nm_inj e ▸ hy)
   show insAll (ins (L.map nmS) (nmS x.1)) (alD al) = _
   rw [e]
   exact ih _
 exact go al [n0]
theorem nds_mem {n0 : Nm} {al : List (Nm × Str)} {m : Nm} : m ∈ nds n0 al ↔ m = n0 \/ m ∈ al.map Prod.fst := by
 have go : ∀ (al : List (Nm × Str)) (L : List Nm), m ∈ al.foldl (fun L x => if x.1 ∈ L then L else L ++ [x.1]) L ↔ m ∈ L \/ m ∈ al.map Prod.fst := by
  intro al
  induction al with
  | nil => intro L; simp
  | cons x al ih =>
   intro L
   rw [List.foldl_cons, ih, List.map_cons, List.mem_cons]
   by_cases h : x.1 ∈ L
   ·rw [if_pos h]
    constructor
    ·rintro (a | a)
     ·exact .inl a
     ·exact .inr (.inr a)
    ·rintro (a | rfl | a)
     ·exact .inl a
     ·exact .inl h
     ·exact .inr a
   ·rw [if_neg h]
    simp only [List.mem_append, List.mem_singleton]
    constructor
    ·rintro ((a | a) | a)
     ·exact .inl a
     ·exact .inr (.inl a)
     ·exact .inr (.inr a)
    ·rintro (a | a | a)
     ·exact .inl (.inl a)
     ·exact .inl (.inr a)
     ·exact .inr a
 have := go al [n0]
 unfold nds
 rw [this, List.mem_singleton]
theorem nds_nodup {n0 : Nm} {al : List (Nm × Str)} : (nds n0 al).Nodup := by
 have go : ∀ (al : List (Nm × Str)) (L : List Nm), L.Nodup -> (al.foldl (fun L x => if x.1 ∈ L then L else L ++ [x.1]) L).Nodup := by
  intro al
  induction al with
  | nil => intro L h; exact h
  | cons x al ih =>
   intro L h
   rw [List.foldl_cons]
   refine ih _ ?_
   by_cases hx : x.1 ∈ L
   ·rw [if_pos hx]; exact h
   ·rw [if_neg hx, List.nodup_append]
    exact ⟨h, by simp, fun a ha b hb => by rw [List.mem_singleton.mp hb]; exact fun e => hx (e ▸ ha)⟩
 exact go al [n0] (by simp)
theorem nds_len {n0 : Nm} {al : List (Nm × Str)} : (nds n0 al).length <= al.length + 1 := by
 have := insAll_len [nmS n0] (alD al)
 rw [insAll_nds, lnM] at this
 unfold alD at this
 rw [lnM, List.length_singleton] at this
 lia
theorem perm_of_map {α β : Type} {f : α -> β} {l m' : List β} (h : l.Perm m') : ∀ {m : List α}, m' = m.map f -> ∃ k : List α, k.Perm m /\ l = k.map f := by
 induction h with
 | nil => intro m hm; cases m with
  | nil => exact ⟨[], .refl _, rfl⟩
  | cons a m => cases hm
 | cons x p ih => intro m hm; cases m with
  | nil => cases hm
  | cons a m =>
   obtain ⟨e1, e2⟩ := List.cons.inj hm
   obtain ⟨k, hk, e⟩ := ih e2
   exact ⟨a :: k, hk.cons a, by rw [e, e1]; rfl⟩
 | swap x y l => intro m hm; cases m with
  | nil => cases hm
  | cons a m => cases m with
   | nil => cases hm
   | cons b m =>
    obtain ⟨e1, e2⟩ := List.cons.inj hm
    obtain ⟨e3, e4⟩ := List.cons.inj e2
    exact ⟨b :: a :: m, .swap _ _ _, by rw [e4, e1, e3]; rfl⟩
 | trans p q ih1 ih2 =>
  intro m hm
  obtain ⟨k, hk, e⟩ := ih2 hm
  obtain ⟨k', hk', e'⟩ := ih1 e
  exact ⟨k', hk'.trans hk, e'⟩
structure QKeep (t t' : St) (D' : Lv) (b : Addr) (nnl : List (U × Px)) : Prop where
 D : t'.D = D' ++ [(b, nnl)]
 out : t'.out = t.out
 ps : t'.ps = t.ps
 N : t'.N = t.N
 data : t'.data = t.data
 rw : t'.rw = t.rw
 seen : t'.seen = t.seen
 done : t'.done = t.done
theorem qRun_keep {D' : Lv} {b : Addr} {ks : List Nm} : ∀ {t t' : St} {l l' : List (Nm × Px)} {x : List (U × Px)}, qRun (t, l) ks = some (t', l') -> t.D = D' ++ [(b, x)] -> ∃ nnl, QKeep t t' D' b nnl /\ nnl.length <= x.length + ks.length /\ l'.map Prod.fst = l.map Prod.fst ++ ks := by
 induction ks with
 | nil =>
  intro t t' l l' x h hD
  cases h
  exact ⟨x, ⟨hD, rfl, rfl, rfl, rfl, rfl, rfl, rfl⟩, Nat.le_refl _, (List.append_nil _).symm⟩
 | cons n ks ih =>
  intro t t' l l' x h hD
  obtain ⟨y, hy, h⟩ := Option.bind_eq_some_iff.mp h
  obtain ⟨r, hr, rfl⟩ := Option.map_eq_some_iff.mp hy
  have hD1 : ∃ x', (qst t n.1 r).D = D' ++ [(b, x')] /\ x'.length <= x.length + 1 := by
   unfold qst
   dsimp only
   by_cases h2 : r.2.1 = true
   ·rw [if_pos h2, hD, tell_snoc]
    exact ⟨_, rfl, Nat.le_of_eq List.length_append⟩
   ·rw [if_neg h2]
    exact ⟨x, hD, Nat.le_succ _⟩
  obtain ⟨x', hx', hl⟩ := hD1
  obtain ⟨nnl, k, h1, h2⟩ := ih h hx'
  refine ⟨nnl, ⟨k.D, k.out, k.ps, k.N, k.data, k.rw, k.seen, k.done⟩, by rw [List.length_cons]; lia, ?_⟩
  rw [h2, List.map_append, List.append_assoc]
  rfl
section
variable {c : Cx} {env : Env} {σ σ' τ : Store} {s : Shared} {Q : PV -> Store -> Prop} {N : Store -> Prop} {R : PV -> Store -> Prop} {a : SA} {t : St} {L : Addr} {pre post Z Y : Store}
theorem K_plainQ (P : Params) : plainGet (KK P) TC "_qname" = true := by kernel_rfl
theorem K_fn83 (P : Params) : isFn (KK P) (.ref 83) = true := by kernel_rfl
theorem K_get83 (P : Params) : specialIn (KK P) (.ref 83) "__get__" = some (some (.builtin "function.__get__")) := by kernel_rfl
theorem K_takes83 (P : Params) : takesIn (KK P) (.ref 83) = some false := by kernel_rfl
theorem K_hd118 (P : Params) : codeHdIn (KK P) 118 116 = true := by kernel_rfl
theorem K_code119 (P : Params) : kdsCode (KK P) fd119.code = true := by kernel_rfl
noncomputable abbrev tbS (tb : Option (Addr × Obj)) : Store := tabS 116 136 71 tb
noncomputable abbrev lamQ : Str := "C14NWriterTarget._start.<locals>.<lambda>"
noncomputable abbrev v5 (n da nn : PV) (D rn : Addr) : List (Option PV) := [some n, some da, some nn, some .none, none, none, some (.raw (.ref D)), some (.raw (.ref rn)), none, some .none, none, none, none, none, none, none, none, none]
theorem start_five {n0 : Nm} {al : List (Nm × Str)} {nn : PV} {da : Addr} {tb : Option (Addr × Obj)} (B : Base c) (S : Tg c a)
  (F : Fm (callEnvC fd119 L 119) L NS) (hda : (da, Cell.dict (alD al)) ∈ pre ++ (Sf a t ++ (tbS tb ++ post))) (hal : al.length <= 3)
  (h : ∀ D rn q, Xs c (callEnvC fd119 L 119) (bd119.drop 6) ((L, .loc NS (v5 (.str (nmS n0)) (.raw (.ref da)) nn D rn)) :: (((q, .obj (methodObj (.ref 83) (.ref a.x))) :: (rn, .dict []) :: (D, .that (SX c.w ((nds n0 al).map nmS))) :: (L + 1, .that (CellIs (some (.raw (.ref a.x))))) :: (L + 2, .that (CellIs (some (.raw (.ref q))))) :: pre) ++ (Sf a t ++ (tbS tb ++ post)))) N R) :
  Xs c (callEnvC fd119 L 119) bd119 ((L, .loc NS [some (.str (nmS n0)), some (.raw (.ref da)), some nn, some .none, none, none, none, none, none, none, none, none, none, none, none, none, none, none]) :: (L + 1, .that (CellIs (some (.raw (.ref a.x))))) :: (L + 2, .that (CellIs none)) :: (pre ++ (Sf a t ++ (tbS tb ++ post)))) N R := by
 have hm : ∀ {p}, p ∈ Sf a t -> p ∈ pre ++ (Sf a t ++ (tbS tb ++ post)) := fun hp => in_mid hp
 refine Xs.cons (X.iff (T.and (and_cons (T.cmp (E.selfC (t := t) (cc := L + 1) B S rfl rfl rfl (.tail _ (.head _)) (.tail _ (.tail _ (.tail _ (hm Sf_inst)))) (by trivial) (by rfl) (E.none (Cmp.isnt_none (Tr.bool ?_))))))))
 rw [if_neg (by simp), if_neg (by simp)]
 refine Xs.nil (Xs.cons (X.nm F (E.postP (E.setD B (K_code119 _) fun D => E.n F ⟨_, rfl, rfl, E.n F ⟨da, alD al, rfl, rfl, .tail _ (.tail _ (.tail _ hda)), by unfold alD; rw [lnM]; exact hal, _, _, front_perm, .refl _, _, _, _, rfl, by trivial, ?_⟩⟩))))
 rw [insAll_nds]
 refine Xs.cons (X.nm F (E.dict0 rfl fun rn => ⟨_, _, _, rfl, by trivial, ?_⟩))
 refine Xs.cons (X.iff (T.cmp (E.n F (E.none (Cmp.isnt_none (Tr.bool ?_))))))
 rw [if_neg (by simp)]
 refine Xs.nil (Xs.cons (X.iff (T.and (and_cons (T.cmp (E.selfC (t := t) (cc := L + 1) B S rfl rfl rfl (.tail _ (.tail _ (.tail _ (.head _)))) (.tail _ (.tail _ (.tail _ (.tail _ (.tail _ (hm Sf_inst)))))) (by trivial) (by rfl) (E.none (Cmp.isnt_none (Tr.bool ?_)))))))))
 rw [if_neg (by simp), if_neg (by simp)]
 refine Xs.cons (X.nm F (E.none ⟨_, _, _, rfl, by trivial, Xs.nil ?_⟩))
 refine Xs.cons (X.cellN (x := "parse_qname") (cc := L + 2) rfl rfl rfl (E.postP (E.attr (E.cell (cc := L + 1) rfl rfl rfl (.tail _ (.tail _ (.tail _ (.head _)))) (At.bound B S.self (.tail _ (.tail _ (.tail _ (.tail _ (.tail _ (hm Sf_inst)))))) (by decide) (K_plainQ _) (K_qname _) (K_fn83 _) (K_get83 _) (K_takes83 _) fun q => ?_)))))
 refine ⟨_, _, front_perm, .refl _, _, none, _, rfl, .tail (.tail (.tail (.tail (.tail .head)))), ?_⟩
 exact h D rn q
noncomputable def keyF : PV -> PV
 | .str x => .lst ((Txt.splitMax x "}" 1).map .str)
 | p => p
theorem keyF_map (ks : List Str) : (ks.map PV.str).map keyF = (ks.map fun x => Txt.splitMax x "}" 1).map fun xs => .lst (xs.map .str) := by
 rw [List.map_map, List.map_map]
 rfl
theorem Ca.key {f c' : Addr} {oc : Obj} {x : Str} {body : PySem.Expr} {scope : Scope} {params : Arguments} {pm ctv : Value} {qual : Str} (B : Base c) (hd : c.d < recursionLimit) (hf : (f, Cell.obj (kla_obj "<lambda>" qual params body scope [] pm c' ctv)) ∈ σ) (hc' : (c', Cell.obj oc) ∈ σ) (hO : CodeO qual oc)
  (hk : scope.kind = .function) (hco : scope.isCoroutine = false) (hgen : scope.isGenerator = false) (hcell : (scope.names.all fun x => decide (x.2 ≠ .cell)) = true) (hn : (scope.names.lookup ("n" : Str) == some .local && !(("n" : Str) == ("__debug__" : Str))) = true)
  (hbind : ∀ v, bindArgs (kla_fn "<lambda>" qual params body scope [] pm (.ref c') ctv) ⟨[v], []⟩ = pure [(("n" : Str), v)]) (hx : x.length <= 1000)
  (hb : ∃ p1 p2 k1 p3 k2 p4 p5, body = .Call (.Attribute (.Name "n" p1) "split" p2) [.Constant (.str "}") k1 p3, .Constant (.int 1) k2 p4] [] p5 /\ ∀ L, ∃ pl, eval body (callEnv (kla_fn "<lambda>" qual params body scope [] pm (.ref c') ctv) L f) = (do
   let ov <- eval (.Name "n" p1) (callEnv (kla_fn "<lambda>" qual params body scope [] pm (.ref c') ctv) L f)
   standAt p2.atName
   let (g, first) <- holding [ov] (getMethod ov "split" pl)
   callWith p5 g first (backTo p5 (starEach [.Constant (.str "}") k1 p3, .Constant (.int 1) k2 p4] (callEnv (kla_fn "<lambda>" qual params body scope [] pm (.ref c') ctv) L f))) []))
  (h : Q (keyF (.str x)) σ) : Ca c (.ref f) [.str x] σ Q := by
 obtain ⟨p1, p2, k1, p3, k2, p4, p5, rfl, he⟩ := hb
 refine Ca.lam (x := "n") (fd := kla_fn "<lambda>" qual params _ scope [] pm (.ref c') ctv) B hd hf hc' hO rfl rfl hk hco hgen hcell hn hbind fun L F B' => ?_
 obtain ⟨pl, he⟩ := he L
 refine E.meth (pl := pl) (E.n F (Gm.split (Es.cons (E.str (Es.cons (E.int (Es.nil ⟨.builtin, Ca.split (by decide) (by decide) (le_sz (by lia)) ⟨σ, .cons _ (.refl _), h⟩⟩)) rfl)) rfl))) he rfl
theorem sortedNames {f c' D : Addr} {oc : Obj} {body : PySem.Expr} {scope : Scope} {params : Arguments} {pm ctv : Value} {qual : Str} {nd : List Nm} (B : Base c) (hu : c.u < 8000) (hd : c.d < recursionLimit) (hf : (f, Cell.obj (kla_obj "<lambda>" qual params body scope [] pm c' ctv)) ∈ σ) (hc' : (c', Cell.obj oc) ∈ σ) (hO : CodeO qual oc) (hD : (D, Cell.that (SX c.w (nd.map nmS))) ∈ σ) (hne : nd ≠ []) (hl : nd.length <= 4)
  (hk : scope.kind = .function) (hco : scope.isCoroutine = false) (hgen : scope.isGenerator = false) (hcell : (scope.names.all fun x => decide (x.2 ≠ .cell)) = true) (hn : (scope.names.lookup ("n" : Str) == some .local && !(("n" : Str) == ("__debug__" : Str))) = true)
  (hbind : ∀ v, bindArgs (kla_fn "<lambda>" qual params body scope [] pm (.ref c') ctv) ⟨[v], []⟩ = pure [(("n" : Str), v)])
  (hb : ∃ p1 p2 k1 p3 k2 p4 p5, body = .Call (.Attribute (.Name "n" p1) "split" p2) [.Constant (.str "}") k1 p3, .Constant (.int 1) k2 p4] [] p5 /\ ∀ L, ∃ pl, eval body (callEnv (kla_fn "<lambda>" qual params body scope [] pm (.ref c') ctv) L f) = (do
   let ov <- eval (.Name "n" p1) (callEnv (kla_fn "<lambda>" qual params body scope [] pm (.ref c') ctv) L f)
   standAt p2.atName
   let (g, first) <- holding [ov] (getMethod ov "split" pl)
   callWith p5 g first (backTo p5 (starEach [.Constant (.str "}") k1 p3, .Constant (.int 1) k2 p4] (callEnv (kla_fn "<lambda>" qual params body scope [] pm (.ref c') ctv) L f))) []))
  (h : ∀ ks : List Nm, ks.Perm nd -> Q (.lst (ks.map fun n => .str (nmS n))) σ) (V : View) (va : Value) (hva : VR V (.raw (.ref D)) va) : W c (PySem.call (.builtin "sorted") [va] [(Str.ofString "key", .ref f)]) V σ (ret Q) := by
 refine sorted_keyed (P := fun l => ∃ ks : List Str, ks.Perm (nd.map nmS) /\ l = ks.map .str) (key := keyF) hu (Col.set hD (by simpa using hne) (by rw [lnM]; lia)) ?_ ?_ V va hva
 ·rintro l ⟨ks, hp, rfl⟩
  have hkl : ks.length <= 4 := by rw [hp.length_eq, lnM]; exact hl
  refine ⟨by rw [lnM]; exact hkl, ?_, oneType', fun _ _ _ => True, ?_, ?_, ?_⟩
  ·intro σ' q hq hx
   obtain ⟨x, hx', rfl⟩ := List.mem_map.mp hq
   obtain ⟨n, _, rfl⟩ := List.mem_map.mp (hp.mem_iff.mp hx')
   exact Ca.key (B.up _ _) hd (hx _ hf) (hx _ hc') hO hk hco hgen hcell hn hbind (by have := nm_len n; lia) hb ⟨rfl, rfl⟩
  ·intro h2
   rw [keyF_map]
   exact KKd.lists (by rw [lnM] at h2 ⊢; exact h2)
  ·intro i j p q hi hj _
   rw [keyF_map, List.getElem?_map] at hi hj
   obtain ⟨xs, _, rfl⟩ := Option.map_eq_some_iff.mp hi
   obtain ⟨ys, _, rfl⟩ := Option.map_eq_some_iff.mp hj
   exact KLt.lists
  ·rw [lnM]
   exact Srt.free hkl
 ·rintro l l' ⟨ks, hp, rfl⟩ hp'
  obtain ⟨ks', hk', e⟩ := perm_of_map (f := PV.str) hp' rfl
  obtain ⟨ms, hm, e2⟩ := perm_of_map (f := nmS) (hk'.trans hp) rfl
  rw [e, e2, List.map_map]
  exact h ms hm
theorem X.dcompF {kx vx target iter : PySem.Expr} {scope : Scope} {y : Str} {py pos spos : Pos} {cl : List (Str × Addr)} {ns0 ns : List Str} {L : Addr} (ok : CompOk env scope cl ns) (hL : Lo env ns0) (hll : env.locals = L)
  (h : (∀ C, Fm (compEnvC scope cl C env) C ns) -> E c env iter σ (Kdc c (fun C => compEnvC scope cl C env) target kx vx ns L ns0 y N))
  (hsw : autoParam (swapsWith (.DictComp kx vx [⟨target, iter, [], 0⟩] scope pos) (some (.Name y py)) spos.line env = pure true) aRfl)
  (ht : autoParam (LetsOk target) aLet) (hs : autoParam (∀ x, foldedSetIterable iter env x = pure x) aIr) :
  X c env (.Assign [.Name y py] (.DictComp kx vx [⟨target, iter, [], 0⟩] scope pos) spos) σ N R := X.dcomp ok hL hll (h fun C => ⟨ok.lo C, rfl⟩) hsw ht hs
end
theorem qRun_fst {ks : List Nm} : ∀ {t t' : St} {l l' : List (Nm × Px)}, qRun (t, l) ks = some (t', l') -> l'.map Prod.fst = l.map Prod.fst ++ ks := by
 induction ks with
 | nil => intro t t' l l' h; cases h; exact (List.append_nil _).symm
 | cons n ks ih =>
  intro t t' l l' h
  obtain ⟨y, hy, h⟩ := Option.bind_eq_some_iff.mp h
  obtain ⟨r, hr, rfl⟩ := Option.map_eq_some_iff.mp hy
  rw [ih h, List.map_append, List.append_assoc]
  rfl
section
variable {c : Cx} {env : Env} {σ σ' τ : Store} {s : Shared} {Q : PV -> Store -> Prop} {N : Store -> Prop} {R : PV -> Store -> Prop} {a : SA} {t : St} {L : Addr} {pre post Z Y : Store}
noncomputable abbrev v6 (n da nn : PV) (D rn dp : Addr) : List (Option PV) := [some n, some da, some nn, some .none, none, none, some (.raw (.ref D)), some (.raw (.ref rn)), none, some .none, none, none, some (.raw (.ref dp)), none, none, none, none, none]
noncomputable abbrev Z5 (a : SA) (L q rn D : Addr) (nd : List Nm) (c : Cx) (pre : Store) : Store := (q, .obj (methodObj (.ref 83) (.ref a.x))) :: (rn, .dict []) :: (D, .that (SX c.w (nd.map nmS))) :: (L + 1, .that (CellIs (some (.raw (.ref a.x))))) :: (L + 2, .that (CellIs (some (.raw (.ref q))))) :: pre
noncomputable abbrev J6 (a : SA) (t : St) (L q rn D : Addr) (nd ks : List Nm) (c : Cx) (pre post : Store) (tb' : Option (Addr × Obj)) (i : Nat) (kl : List (Str × PV)) (τ' : Store) : Prop := ∃ t' l', qRun (t, []) (ks.take i) = some (t', l') /\ kl = qDict l' /\ τ' = Z5 a L q rn D nd c pre ++ (Sf a t' ++ (tbS tb' ++ post))
theorem turn_six {n da nn : PV} {D rn q : Addr} {tb' : Option (Addr × Obj)} {nd ks : List Nm} {cenv : Addr -> Env} {pt pk p1 p2 p3 : Pos} (B : Base c) (S : Tg c a) (hd : c.d + 2 < recursionLimit) (FC : ∀ C, Fm (cenv C) C ["n"]) (hk : ∀ C, (cenv C).scope.kind = .function) (hfr : ∀ C, (cenv C).kindOf "parse_qname" = some .cell) (hcl : ∀ C, (cenv C).cells.lookup ("parse_qname" : Str) = some (L + 2))
  (hse : ∀ C, starEach [PySem.Expr.Name "n" p2] (cenv C) = (false, eval (.Name "n" p2) (cenv C)) :: starEach [] (cenv C)) (hst : ∀ C, (backTo p3 (starEach [PySem.Expr.Name "n" p2] (cenv C))).any (·.1) = false)
  (hks : ks.Perm nd) (hnd : nd.Nodup) (hrun : ∀ (i : Nat), i < ks.length -> ∃ ti li, qRun (t, []) (ks.take i) = some (ti, li) /\ Ok ti /\ ∀ n, ks[i]? = some n -> (qn ti n.1).isSome) :
  TurnD c cenv (.Name "n" pt) (.Name "n" pk) (.Call (.Name "parse_qname" p1) [.Name "n" p2] [] p3) ["n"] L NS (v5 n da nn D rn) (ks.map fun n => .str (nmS n)) (J6 a t L q rn D nd ks c pre post tb') := by
 rintro Fr β hb C D' i q' vs kl τ' hq' ⟨ti, li, hr, rfl, rfl⟩ hvs
 obtain ⟨v1, rfl⟩ := len1 hvs
 rw [List.getElem?_map] at hq'
 obtain ⟨m, hm, rfl⟩ := Option.map_eq_some_iff.mp hq'
 have hi : i < ks.length := (List.getElem?_eq_some_iff.mp hm).1
 obtain ⟨ti', li', hr', ok, hsome⟩ := hrun i hi
 rw [hr] at hr'
 cases hr'
 obtain ⟨r, hqn⟩ := Option.isSome_iff_exists.mp (hsome m hm)
 have htake : ks.take (i + 1) = ks.take i ++ [m] := by rw [List.take_add_one, hm]; rfl
 have hrun' : qRun (t, []) (ks.take (i + 1)) = some (qst ti m.1 r, li ++ [(m, r.1)]) := by
  rw [htake, qRun_append, hr]
  show (qStep (ti, li) m).bind _ = _
  unfold qStep
  rw [hqn]
  rfl
 have hnew : m ∉ li.map Prod.fst := by
  rw [qRun_fst hr, List.map_nil, List.nil_append]
  have hks' : ks.Nodup := hks.symm.nodup hnd
  have h2 : (ks.take i ++ ks.drop i).Nodup := by rw [List.take_append_drop]; exact hks'
  have h3 := (List.nodup_append.mp h2).2.2
  have h4 : m ∈ ks.drop i := List.mem_of_getElem? (i := 0) (by rw [List.getElem?_drop]; simpa using hm)
  exact fun h5 => h3 m h5 m h4 rfl
 have B2 : Base (c.ext Fr β) := B.ext hb
 have S2 := S.ext (F := Fr) hb
 have F2 := FC C
 refine Asg.name F2.lo F2.loc .head ⟨_, rfl, rfl, E.nm F2 .head ⟨rfl, nmS m, rfl, ?_⟩⟩
 refine E.call (E.cell (cc := L + 2) (p := .raw (.ref q)) (hk C) (hfr C) (hcl C) (.tail _ (.tail _ (memL _ (.tail _ (.tail _ (.tail _ (.tail _ (.head _)))))))) ⟨_, rfl, Es.cons (E.nm F2 .head (Es.nil ⟨KeeperIs.meth B2 (f := 83) (self := .ref a.x) (.tail _ (.tail _ (memL _ (.head _)))) (at83 _), Ca.bound (f := .ref 83) (self := .ref a.x) (.tail _ (.tail _ (memL _ (.head _)))) ?_⟩)) (hse C)⟩) (hst C)
 have e1 : dcS C ["n"] [some (.str (nmS m))] L NS (v5 n da nn D rn) (Z5 a L q rn D nd c pre ++ (Sf a ti ++ (tbS tb' ++ post))) D' (qDict li) = ((C, .loc ["n"] [some (.str (nmS m))]) :: (L, .loc NS (v5 n da nn D rn)) :: Z5 a L q rn D nd c pre) ++ (Sf a ti ++ ((tbS tb' ++ post) ++ [(D', .dict (qDict li))])) := by
  unfold dcS
  simp
 show Cc (c.ext Fr β) (.ref 83) [.raw (.ref a.x), .str (nmS m)] (dcS C ["n"] [some (.str (nmS m))] L NS (v5 n da nn D rn) (Z5 a L q rn D nd c pre ++ (Sf a ti ++ (tbS tb' ++ post))) D' (qDict li)) _
 rw [e1]
 refine Cc83 B2 S2 (show c.d + 1 < recursionLimit by lia) ok hqn ⟨Z5 a L q rn D nd c pre ++ (Sf a (qst ti m.1 r) ++ (tbS tb' ++ post)), ?_, qst ti m.1 r, li ++ [(m, r.1)], hrun', qDict_new hnew, rfl⟩
 unfold dcS
 simp
theorem perm_new {p1 p2 x : Addr × Cell} {A C : Store} : (p1 :: (A ++ (x :: p2 :: C))).Perm (p1 :: p2 :: (A ++ x :: C)) := by
 refine .cons _ ?_
 have e : A ++ (x :: p2 :: C) = (A ++ [x]) ++ p2 :: C := by simp
 have e2 : A ++ x :: C = (A ++ [x]) ++ C := by simp
 rw [e, e2]
 exact List.perm_middle
theorem start_six {n da nn : PV} {D rn q : Addr} {tb : Option (Addr × Obj)} {nd : List Nm} (B : Base c) (S : Tg c a) (hu : c.u < 8000) (hd : c.d + 2 < recursionLimit) (F : Fm (callEnvC fd119 L 119) L NS) (htb : tabOk lamQ tb) (hne : nd ≠ []) (hl4 : nd.length <= 4) (hnd : nd.Nodup)
  (hrun : ∀ ks : List Nm, ks.Perm nd -> ∀ (i : Nat), i < ks.length -> ∃ ti li, qRun (t, []) (ks.take i) = some (ti, li) /\ Ok ti /\ ∀ n, ks[i]? = some n -> (qn ti n.1).isSome)
  (h : ∀ ks t' l tb' dp, ks.Perm nd -> qRun (t, []) ks = some (t', l) -> tabOk lamQ tb' -> Xs c (callEnvC fd119 L 119) (bd119.drop 7) ((L, .loc NS (v6 n da nn D rn dp)) :: (((dp, .dict (qDict l)) :: Z5 a L q rn D nd c pre) ++ (Sf a t' ++ (tbS tb' ++ post)))) N R) :
  Xs c (callEnvC fd119 L 119) (bd119.drop 6) ((L, .loc NS (v5 n da nn D rn)) :: (Z5 a L q rn D nd c pre ++ (Sf a t ++ (tbS tb ++ post)))) N R := by
 refine Xs.cons (X.dcompF (ns := ["n"]) (cl := [("parse_qname", L + 2)]) (CompOk.of rfl (by decide +kernel) rfl (by kernel_rfl) (by decide) rfl) F.lo F.loc fun FC => ?_)
 have main : ∀ (ks : List Nm) (tb' : Option (Addr × Obj)), ks.Perm nd -> tabOk lamQ tb' -> ∃ (l : List PV) (need : Store -> Prop) (J : Nat -> List (Str × PV) -> Store -> Prop) (vs0 : List (Option PV)) (vs0' : Addr -> List (Option PV)) (τ : Store), Itb c (.lst (ks.map fun n => .str (nmS n))) ((L, .loc NS (v5 n da nn D rn)) :: (Z5 a L q rn D nd c pre ++ (Sf a t ++ (tbS tb' ++ post)))) l need /\ (∀ σ', need σ') /\ (∀ i kl τ', J i kl τ' -> kl.length <= 100) /\
   (l = (ks.map fun n => .str (nmS n)) /\ J = J6 a t L q rn D nd ks c pre post tb' /\ vs0 = v5 n da nn D rn) /\ (L, Cell.loc NS (v5 n da nn D rn)) :: (Z5 a L q rn D nd c pre ++ (Sf a t ++ (tbS tb' ++ post))) = (L, .loc NS vs0) :: τ /\ J 0 [] τ /\ ∀ dp kl τ', J l.length kl τ' -> Su "parsed_qnames" (.raw (.ref dp)) NS vs0 (vs0' dp) /\ Xs c (callEnvC fd119 L 119) (bd119.drop 7) (((L, .loc NS (vs0' dp)) :: τ') ++ [(dp, .dict kl)]) N R := fun ks tb' hks htb' => by
  refine ⟨ks.map fun n => .str (nmS n), fun _ => True, J6 a t L q rn D nd ks c pre post tb', v5 n da nn D rn, fun dp => v6 n da nn D rn dp, _, Itb.lst, fun _ => trivial, ?_, ⟨rfl, rfl, rfl⟩, rfl, ⟨t, [], rfl, rfl, rfl⟩, ?_⟩
  ·rintro i kl τ' ⟨t', l', hr, rfl, _⟩
   have := congrArg List.length (qRun_fst hr)
   rw [List.length_append, lnM, lnM, List.length_nil, List.length_take, hks.length_eq] at this
   unfold qDict
   rw [lnM]
   lia
  ·rintro dp kl τ' ⟨t', l', hr, rfl, rfl⟩
   refine ⟨by trivial, Xs.perm front_perm ?_⟩
   rw [lnM, List.take_length] at hr
   exact h ks t' l' tb' dp hks hr htb'
 refine E.postP (E.callK (E.globB B rfl rfl rfl rfl (by kernel_rfl) rfl ⟨_, rfl, E.n F ?_⟩))
 cases tb with
 | none =>
  have e : (L, Cell.loc NS (v5 n da nn D rn)) :: (Z5 a L q rn D nd c pre ++ (Sf a t ++ (tbS none ++ post))) = ((L, .loc NS (v5 n da nn D rn)) :: (Z5 a L q rn D nd c pre ++ Sf a t)) ++ (116, .obj (tabObj #[])) :: post := by simp [tabS]
  rw [e]
  refine E.lamNew (cc := 118) (P := 116) B (K_hd118 _) fun f c' oc pm ctv hO => ⟨_, rfl, .builtin, ?_⟩
  refine sortedNames B hu (by lia) (.head _) (.tail _ (.head _)) hO (.tail _ (.tail _ (memL _ (.tail _ (.tail _ (.tail _ (.head _))))))) hne hl4 rfl rfl rfl (by decide +kernel) (by decide +kernel) (fun _ => rfl) ⟨_, _, _, _, _, _, _, rfl, fun L => ⟨_, rfl⟩⟩ fun ks hks => ?_
  obtain ⟨l, need, J, vs0, vs0', τ, a1, a2, a3, ⟨rfl, rfl, rfl⟩, a5, a6, a7⟩ := main ks (some (c', oc)) hks hO
  have et : (L, Cell.loc NS (v5 n da nn D rn)) :: (Z5 a L q rn D nd c pre ++ (Sf a t ++ (tbS (some (c', oc)) ++ post))) = ((L, .loc NS (v5 n da nn D rn)) :: (Z5 a L q rn D nd c pre ++ Sf a t)) ++ (116, .obj (tabOf 136 71 c')) :: (c', .obj oc) :: post := by simp [tabS]
  exact ⟨_, _, perm_new, by rw [<- et]; exact .cons _ (.refl _), _, need, _, _, vs0', τ, a1, a2, a3, turn_six B S hd FC (fun _ => rfl) (fun _ => rfl) (fun _ => rfl) (fun _ => rfl) (fun _ => rfl) hks hnd (hrun ks hks), a5, a6, a7⟩
 | some x =>
  obtain ⟨c', oc⟩ := x
  have e : (L, Cell.loc NS (v5 n da nn D rn)) :: (Z5 a L q rn D nd c pre ++ (Sf a t ++ (tbS (some (c', oc)) ++ post))) = ((L, .loc NS (v5 n da nn D rn)) :: (Z5 a L q rn D nd c pre ++ Sf a t)) ++ (116, .obj (tabOf 136 71 c')) :: (c', .obj oc) :: post := by simp [tabS]
  rw [e]
  refine E.lamHit (cc := 118) (P := 116) (c' := c') B (K_hd118 _) fun f pm ctv => ⟨_, rfl, .builtin, ?_⟩
  refine sortedNames B hu (by lia) (.head _) (.tail _ (memR _ (.tail _ (.head _)))) htb (.tail _ (memL _ (.tail _ (.tail _ (.tail _ (.head _)))))) hne hl4 rfl rfl rfl (by decide +kernel) (by decide +kernel) (fun _ => rfl) ⟨_, _, _, _, _, _, _, rfl, fun L => ⟨_, rfl⟩⟩ fun ks hks => ?_
  obtain ⟨l, need, J, vs0, vs0', τ, a1, a2, a3, ⟨rfl, rfl, rfl⟩, a5, a6, a7⟩ := main ks (some (c', oc)) hks htb
  exact ⟨_, _, .refl _, by rw [<- e]; exact .cons _ (.refl _), _, need, _, _, vs0', τ, a1, a2, a3, turn_six B S hd FC (fun _ => rfl) (fun _ => rfl) (fun _ => rfl) (fun _ => rfl) (fun _ => rfl) hks hnd (hrun ks hks), a5, a6, a7⟩
end
noncomputable def ob114 : Obj := getOb (a := 114) rfl
theorem at114 (P : Params) : (KK P).lookup 114 = some ob114 := by kernel_rfl
theorem kidx_kev {α : Type} {n : Nat} {P : α -> Bool} {f : Nat -> Nat -> Bool} (t : KasT α) (h : kidx n P t = true) : P (kev f t) = true := by
 induction t with
 | ret a => exact h
 | ask i j k ih => exact ih _ ((kidx_ask h).2 _)
theorem srtP_perm {n : Nat} (h : n <= 4) (f : Nat -> Nat -> Bool) : (srtP n f).Perm (List.range n) := by
 unfold srtP
 split
 ·exact .refl _
 ·exact isP_perm (kidx_kev _ (ki (by lia) h))
theorem srtL_perm {l : List (Str × Str)} (h : l.length <= 4) : (srtL l).Perm l := pick_perm (srtP_perm h _)
theorem alS_p {al : List (Nm × Str)} (h : al.length <= 4) : (alS al).Perm al := alS_perm (srtP_perm h _)
theorem xnS_len (p : Px) : (xnS p).length <= 16 := by revert p; decide +kernel
theorem nm_space (n : Nm) : (nmS n == ("{http://www.w3.org/XML/1998/namespace}space" : Str)) = false := by
 obtain ⟨u, l⟩ := n
 revert u l
 decide +kernel
theorem alD_space (al : List (Nm × Str)) : (alD al).lookup ("{http://www.w3.org/XML/1998/namespace}space" : Str) = none := by
 induction al with
 | nil => rfl
 | cons x al ih =>
  show List.lookup _ ((nmS x.1, PV.str x.2) :: alD al) = none
  rw [List.lookup_cons]
  have : (("{http://www.w3.org/XML/1998/namespace}space" : Str) == nmS x.1) = false := by
   have h := nm_space x.1
   rw [beq_eq_false_iff_ne] at h ⊢
   exact h.symm
  rw [this]
  exact ih
theorem atL_len {l : List (Nm × Px)} {nnl : List (U × Px)} {al : List (Nm × Str)} (h1 : nnl.length <= 4) (h2 : al.length <= 3) : (atL l nnl al).length <= 8 := by
 unfold atL xnL
 rw [List.length_append, lnM, (alS_p (by lia)).length_eq, (srtL_perm (by rw [lnM]; exact h1)).length_eq, lnM]
 lia
theorem atL_short {l : List (Nm × Px)} {nnl : List (U × Px)} {al : List (Nm × Str)} (h1 : nnl.length <= 4) (hA : Al al) : ∀ x ∈ atL l nnl al, x.1.length <= 100 /\ x.2.length <= 100 := by
 intro x hx
 unfold atL xnL at hx
 rcases List.mem_append.mp hx with hx | hx
 ·have := (srtL_perm (by rw [lnM]; exact h1)).mem_iff.mp hx
  obtain ⟨y, _, rfl⟩ := List.mem_map.mp this
  have a := xnS_len y.2
  have b := uS_len y.1
  exact ⟨by show (xnS y.2).length <= 100; lia, by show (uS y.1).length <= 100; lia⟩
 ·obtain ⟨y, hy, rfl⟩ := List.mem_map.mp hx
  have hl := hA.len
  have := hA.short y ((alS_p (by lia)).mem_iff.mp hy)
  refine ⟨?_, by show y.2.length <= 100; lia⟩
  show (anS l y.1).length <= 100
  unfold anS
  split
  ·rw [lc_len]; lia
  ·have := wn_len ((l.lookup y.1).getD 0) y.1.2
   lia
theorem lookup_fst {l : List (Nm × Px)} {n : Nm} (h : n ∈ l.map Prod.fst) : ∃ p, l.lookup n = some p := by
 induction l with
 | nil => cases h
 | cons x l ih =>
  rw [List.lookup_cons]
  by_cases hx : n = x.1
  ·rw [show (n == x.1) = true from beq_iff_eq.mpr hx]; exact ⟨_, rfl⟩
  ·rw [show (n == x.1) = false from beq_eq_false_iff_ne.mpr hx]
   rw [List.map_cons, List.mem_cons] at h
   exact ih (h.resolve_left hx)
noncomputable def stEnd (t : St) (l : List (Nm × Px)) (nnl : List (U × Px)) (n0 : Nm) (al : List (Nm × Str)) (b : Bool) (bN : Addr) : St := stSt t (wn ((l.lookup n0).getD 0) n0.2) (atL l nnl al) b bN
section
variable {c : Cx} {σ : Store} {Q : PV -> Store -> Prop} {a : SA} {t : St} {pre post : Store}
theorem Ca119 {n0 : Nm} {al : List (Nm × Str)} {da b : Addr} {tb : Option (Addr × Obj)} {D' : Lv} {ps' : List Bool} {bp : Bool} (B : Base c) (S : Tg c a) (hu : c.u < 7000) (hd : c.d + 4 < recursionLimit) (hA : Al al) (hda : (da, Cell.dict (alD al)) ∈ pre)
  (hD : t.D = D' ++ [(b, [])]) (htb : tabOk lamQ tb) (hps : t.ps = ps' ++ [bp]) (hpl : t.ps.length <= 1000) (hol : t.out.length <= 10000) (hNl : t.N.length <= 1000)
  (hrun : ∀ ks : List Nm, ks.Perm (nds n0 al) -> ∀ (i : Nat), i < ks.length -> ∃ ti li, qRun (t, []) (ks.take i) = some (ti, li) /\ Ok ti /\ ∀ n, ks[i]? = some n -> (qn ti n.1).isSome)
  (h : ∀ ks t' l nnl bN tb', ks.Perm (nds n0 al) -> qRun (t, []) ks = some (t', l) -> QKeep t t' D' b nnl -> tabOk lamQ tb' -> Q .none (pre ++ (Sf a (stEnd t' l nnl n0 al bp bN) ++ (tbS tb' ++ post)))) :
  Ca c (.ref 119) [.raw (.ref a.x), .str (nmS n0), .raw (.ref da), .raw (.ref b)] (pre ++ (Sf a t ++ (tbS tb ++ post))) Q := by
 have hl3 := hA.len
 refine Ca.fnC (x1 := "self") (x2 := "parse_qname") (ps := ["self", "tag", "attrs", "new_namespaces", "qname_text"]) (pvs' := [.raw (.ref a.x), .str (nmS n0), .raw (.ref da), .raw (.ref b), .none]) B (at119 _) rfl rfl rfl rfl rfl (fun h => by rfl) (fun L => by rfl) (cd119 _) (by lia) NS (by decide +kernel) (by decide) ?bind rfl fun L F B' => ?_
 case bind =>
  intro s V vals hl hv
  obtain ⟨v1, _, rfl, r1, hv⟩ := hv.inv_cons
  obtain ⟨v2, _, rfl, r2, hv⟩ := hv.inv_cons
  obtain ⟨v3, _, rfl, r3, hv⟩ := hv.inv_cons
  obtain ⟨v4, _, rfl, r4, hv⟩ := hv.inv_cons
  have e0 := hv.inv_nil
  subst e0
  exact ⟨[v1, v2, v3, v4, .none], BindsTo.of_defaults (fd := fd119) rfl (B.In hl _ _ (at114 _)) rfl rfl rfl, .cons r1 (.cons r2 (.cons r3 (.cons r4 (.cons .none .nil))))⟩
 have S' := S.up (c.d + 1) (c.u + 3)
 rw [show List.replicate NS.length (none : Option PV) = [none, none, none, none, none, none, none, none, none, none, none, none, none, none, none, none, none, none] from rfl]
 refine Stores.cell rfl rfl rfl (.inl ⟨_, rfl⟩) (.tail .head) (Stores.su F (by trivial) (Stores.su F (by trivial) (Stores.su F (by trivial) (Stores.su F (by trivial) ?_))))
 refine start_five B' S' F (memL _ hda) hl3 fun D rn q => ?_
 refine start_six B' S' (show c.u + 3 < 8000 by lia) (show c.d + 1 + 2 < recursionLimit by lia) F htb (by
  intro e
  have := (nds_mem (n0 := n0) (al := al) (m := n0)).mpr (.inl rfl)
  rw [e] at this
  cases this) (by have := @nds_len n0 al; lia) nds_nodup hrun fun ks t' l tb' dp hks hrk htb' => ?_
 obtain ⟨nnl, K, hnl, hfst⟩ := qRun_keep hrk hD
 rw [List.map_nil, List.nil_append] at hfst
 have hkl : ks.length <= 4 := by rw [hks.length_eq]; have := @nds_len n0 al; lia
 have hnl4 : nnl.length <= 4 := by rw [List.length_nil] at hnl; lia
 have hbm : (b, Cell.list (nnl.map pr)) ∈ Sf a t' := by
  refine Sf_lD _ ?_
  rw [K.D, lsts_snoc]
  exact memR _ (.head _)
 obtain ⟨p0, hp0⟩ : ∃ p, l.lookup n0 = some p := lookup_fst (by rw [hfst]; exact hks.mem_iff.mpr (nds_mem.mpr (.inl rfl)))
 refine start_ns (dp := dp) B' (show c.u + 3 < 8000 by lia) F (in_mid hbm) hnl4 fun dl => ?_
 refine start_at (l := l) (al := al) B' (show c.u + 3 < 8000 by lia) F (memL _ (.tail _ (.tail _ (.tail _ (.tail _ (.tail _ (.tail _ hda))))))) (.head _) hl3 (fun x hx => lookup_fst (by rw [hfst]; exact hks.mem_iff.mpr (nds_mem.mpr (.inr (List.mem_map_of_mem hx))))) (by
  unfold xnL
  rw [(srtL_perm (by rw [lnM]; exact hnl4)).length_eq, lnM]; exact hnl4) fun k v an ur aq => ?_
 refine start_end (Z := (dl, .list ((atL l nnl al).map pp)) :: (dp, .dict (qDict l)) :: Z5 a L q rn D (nds n0 al) { c with d := c.d + 1, u := c.u + 3 } pre) (tg := wn p0 n0.2) (n := nmS n0) (ps' := ps') (b := bp) (cs := L + 1) B' S' (show c.d + 1 + 1 < recursionLimit by lia) F rfl (.tail _ (.tail _ (.tail _ (.tail _ (.tail _ (.head _)))))) (.tail _ (.head _)) (.head _) (.tail _ (.tail _ (.tail _ (.tail _ (.tail _ (.tail _ (.tail _ hda))))))) (x1 := .str (lcS n0.2)) (x2 := .str (uS n0.1)) (by rw [qDict_lookup, hp0]; rfl) (by have := wn_len p0 n0.2; lia) (alD_space al) (atL_len hnl4 hl3) (atL_short hnl4 hA) (by rw [K.ps]; exact hps) (by rw [K.ps]; exact hpl) (by rw [K.out]; exact hol) (by rw [K.N]; exact hNl) fun bN => ?_
 refine ⟨pre ++ (Sf a (stEnd t' l nnl n0 al bp bN) ++ (tbS tb' ++ post)), ?_, h ks t' l nnl bN tb' hks hrk K htb'⟩
 unfold stEnd
 rw [hp0]
 exact .cons _ (.cons _ (.cons _ (.cons _ (.cons _ (.cons _ (.cons _ (.refl _)))))))
end
noncomputable def fd113 : FuncData := getFd (a := 113) rfl
noncomputable def bd113 : List Stmt := getBody (fd := fd113) rfl
theorem at113 (P : Params) : FnAt P 113 fd113 := by kernel_rfl
theorem ok113 : FnOk fd113 ["self", "tag", "attrs"] ["new_namespaces"] bd113 := ⟨rfl, rfl, rfl, rfl, by decide +kernel, by decide, by decide +kernel⟩
theorem cd113 (P : Params) : codeIn (KK P) fd113.code fd113.qualname = true := by kernel_rfl
theorem K_start (P : Params) : findIn (KK P) (.ref TC) "_start" = some (some (.ref 119)) := by kernel_rfl
theorem K_119 (P : Params) : typeIn (KK P) (.ref 119) = some (.type "function") := by kernel_rfl
theorem newD_perm {a : SA} {t : St} {Z post : Store} {p : Addr × Cell} {b : Addr} : (p :: (Z ++ (Sf a { t with D := t.D ++ [(b, [])] } ++ post))).Perm (p :: (b, .list []) :: (Z ++ (SfX a { t with D := t.D ++ [(b, [])] } (lsts (pl t.D) ++ lsts (pl t.N)) ++ post))) := by
 refine .cons _ ?_
 have e : Sf a { t with D := t.D ++ [(b, [])] } = SfX a { t with D := t.D ++ [(b, [])] } (lsts (pl t.D) ++ ((b, .list []) :: lsts (pl t.N))) := by
  unfold Sf SfX
  rw [lsts_snoc]
  simp
 rw [e]
 have e2 : ∀ (X : Store), SfX a { t with D := t.D ++ [(b, [])] } X = SfX a { t with D := t.D ++ [(b, [])] } [] ++ X := fun X => rfl
 rw [e2, e2 (lsts (pl t.D) ++ lsts (pl t.N))]
 have e3 : Z ++ (SfX a { t with D := t.D ++ [(b, [])] } [] ++ (lsts (pl t.D) ++ (b, .list []) :: lsts (pl t.N)) ++ post) = (Z ++ (SfX a { t with D := t.D ++ [(b, [])] } [] ++ lsts (pl t.D))) ++ (b, .list []) :: (lsts (pl t.N) ++ post) := by simp
 have e4 : Z ++ (SfX a { t with D := t.D ++ [(b, [])] } [] ++ (lsts (pl t.D) ++ lsts (pl t.N)) ++ post) = (Z ++ (SfX a { t with D := t.D ++ [(b, [])] } [] ++ lsts (pl t.D))) ++ (lsts (pl t.N) ++ post) := by simp
 rw [e3, e4]
 exact List.perm_middle
section
variable {c : Cx} {σ : Store} {Q : PV -> Store -> Prop} {a : SA} {t : St} {pre post : Store}
noncomputable def opD (t : St) (b : Addr) : St := { flush t with D := (flush t).D ++ [(b, [])] }
theorem Ca113 {n0 : Nm} {al : List (Nm × Str)} {da : Addr} {tb : Option (Addr × Obj)} {ps' : List Bool} {bp : Bool} (B : Base c) (S : Tg c a) (hu : c.u < 6000) (hd : c.d + 6 < recursionLimit) (ok : Ok2 t) (hA : Al al) (hda : (da, Cell.dict (alD al)) ∈ pre)
  (htb : tabOk lamQ tb) (hps : t.ps = ps' ++ [bp]) (hpl : t.ps.length <= 1000) (hol : t.out.length <= 9000) (hNl : t.N.length <= 1000) (hDl : t.D.length <= 1000)
  (hrun : ∀ (b : Addr) (ks : List Nm), ks.Perm (nds n0 al) -> ∀ (i : Nat), i < ks.length -> ∃ ti li, qRun (opD t b, []) (ks.take i) = some (ti, li) /\ Ok ti /\ ∀ n, ks[i]? = some n -> (qn ti n.1).isSome)
  (h : ∀ b ks t' l nnl bN tb', ks.Perm (nds n0 al) -> qRun (opD t b, []) ks = some (t', l) -> QKeep (opD t b) t' t.D b nnl -> tabOk lamQ tb' -> Q .none (pre ++ (Sf a (stEnd t' l nnl n0 al bp bN) ++ (tbS tb' ++ post)))) :
  Ca c (.ref 113) [.raw (.ref a.x), .str (nmS n0), .raw (.ref da)] (pre ++ (Sf a t ++ (tbS tb ++ post))) Q := by
 refine Ca.fm (pvs' := [.raw (.ref a.x), .str (nmS n0), .raw (.ref da)]) (ns := ["self", "tag", "attrs", "new_namespaces"]) (vs := [some (.raw (.ref a.x)), some (.str (nmS n0)), some (.raw (.ref da)), none]) B (at113 _) ok113 (cd113 _) (by lia)
  (fun s V vals _ hv => bind3 hv fun _ _ _ => rfl) rfl rfl rfl fun L F B' => ?_
 have S' := S.up (c.d + 1) (c.u + 3)
 have hm : ∀ p ∈ Sf a t, p ∈ pre ++ (Sf a t ++ (tbS tb ++ post)) := fun p hp => in_mid hp
 refine Xs.cons (X.iff (T.and (and_cons (T.cmp (E.sf B' S' F (hm _ Sf_inst) (E.none (Cmp.isnt_none (Tr.bool ?_))))))))
 rw [if_neg (by simp), if_neg (by simp)]
 refine Xs.nil (Xs.cons (X.flushIf B' S' F (show c.d + 1 + 2 < recursionLimit by lia) ok (by trivial) ?_))
 refine Xs.cons (X.nm F (E.list (Es.nil ⟨le_sz (by simp), _, _, rfl, fun b => ⟨_, _, _, rfl, by trivial, ?_⟩⟩)))
 have hfD : (flush t).D = t.D := rfl
 have hm1 : ∀ {p}, p ∈ Sf a (flush t) -> p ∈ pre ++ (Sf a (flush t) ++ (tbS tb ++ post)) := fun hp => in_mid hp
 have U : Up a.D (.list (refs (pl (flush t).D))) (.list (refs (pl (flush t).D) ++ [.raw (.ref b)])) (Sf a (flush t)) (SfX a (opD t b) (lsts (pl (flush t).D) ++ lsts (pl (flush t).N))) := by
  rw [show refs (pl (flush t).D) ++ [PV.raw (.ref b)] = refs (pl ((flush t).D ++ [(b, [])])) from (refs_snoc (flush t).D (b, [])).symm]
  exact .tail (.tail (.tail (.tail (.tail .head))))
 refine Xs.cons (X.expr (E.postP (E.meth (E.sf (t := flush t) B' S' F (.tail _ (hm1 Sf_inst)) (Gm.append (.tail _ (.tail _ (hm1 Sf_D))) (Es.cons (E.n F (Es.nil ⟨.builtin, Ca.append (.tail (.tail (up_mid U))) ?_ ⟨_, _, newD_perm, .refl _, ?_⟩⟩)) rfl))))))
 ·unfold refs pl; rw [lnM, lnM]; exact le_sz (by rw [hfD]; lia)
 have hm2 : ∀ {p}, p ∈ Sf a (opD t b) -> p ∈ pre ++ (Sf a (opD t b) ++ (tbS tb ++ post)) := fun hp => in_mid hp
 refine Xs.cons (X.iff (T.and (and_cons (T.cmp (E.sf (t := opD t b) B' S' F (hm2 Sf_inst) (E.none (Cmp.isnt_none (Tr.bool ?_))))))))
 rw [if_neg (by simp), if_neg (by simp)]
 refine Xs.nil (Xs.cons (X.expr (E.meth (E.n F (Gm.cls B' S' (.tail _ (hm2 Sf_inst)) (by decide) (K_start _) (K_119 _) (Es.cons (E.n F (Es.cons (E.n F (Es.cons (E.n F (Es.nil ⟨.fn B' (at119 _), ?_⟩)) rfl)) rfl)) rfl))))))
 refine Ca119 (pre := (L, _) :: pre) (D' := t.D) (ps' := ps') (bp := bp) B' S' (show c.u + 3 < 7000 by lia) (show c.d + 1 + 4 < recursionLimit by lia) hA (.tail _ hda) rfl htb hps hpl ?_ hNl (hrun b) fun ks t' l nnl bN tb' a1 a2 a3 a4 => ?_
 ·show (flush t).out.length <= 10000
  unfold flush
  dsimp only
  split
  ·rw [List.length_append]; simp; lia
  ·lia
 exact Xs.nil ⟨_, .cons _ (.refl _), h b ks t' l nnl bN tb' a1 a2 a3 a4⟩
end
section
variable {c : Cx} {env : Env} {σ σ' τ : Store} {s s' : Shared} {Q : PV -> Store -> Prop} {N : Store -> Prop} {R : PV -> Store -> Prop} {L : Addr} {ns : List Str} {vs : List (Option PV)}
theorem Out.thaw {x : Addr} {o : Obj} {β : View} (R0 : Rep c σ s) (hx : s.heap.objs.size <= x) (hp : ∀ xs n, o.data ≠ .seq xs n) (R' : Rep (c.ext c.F β) σ' s') (hβ : VLe (vw c.F σ s) β) (hm : β.mem x = some o) (same : s'.gens = s.gens /\ s'.os = s.os)
  (kept : ∀ a ∈ c.F, ∀ o, s.heap.get? a = some o -> s'.heap.get? a = some o) : Out c σ s ((x, .obj o) :: σ') s' := by
 have hv := vw_some.mp (R'.base.mem _ _ hm)
 have old : ∀ a y, s.heap.get? a = some y -> a ≠ x := fun a y e q => Nat.lt_irrefl _ (Nat.lt_of_lt_of_le (get_lt e) (q ▸ hx))
 have kv : VLe (vw c.F σ s) (vw c.F ((x, Cell.obj o) :: σ') s') := ⟨fun a y e => by
  have e0 := (vw_some.mp e).2.2
  obtain ⟨e1, e2, e3⟩ := vw_some.mp (R'.base.mem _ _ (hβ.mem _ _ e))
  refine vw_some.mpr ⟨e1, fun q => ?_, e3⟩
  rcases List.mem_cons.mp q with q | q
  ·exact old a y e0 q
  ·exact e2 q, Nat.le_trans hβ.tk R'.base.tk⟩
 have ks : ∀ a cl xs n, (vw c.F σ' s').mem a = some (seqObj cl xs n) -> (vw c.F ((x, Cell.obj o) :: σ') s').mem a = some (seqObj cl xs n) := fun a cl xs n e => by
  obtain ⟨e1, e2, e3⟩ := vw_some.mp e
  refine vw_some.mpr ⟨e1, fun q => ?_, e3⟩
  rcases List.mem_cons.mp q with q | q
  ·rw [show a = x from q, hv.2.2] at e3
   cases e3
   exact hp _ _ rfl
  ·exact e2 q
 refine ⟨same, ⟨List.nodup_cons.mpr ⟨hv.2.1, R'.nodup⟩, fun a ha => ?_, R'.old, fun q => ?_, big_mono kv R0.big, R0.base.trans kv, fun p hp => ?_⟩, kv, kept⟩
 ·rcases List.mem_cons.mp ha with rfl | ha
  ·exact hv.1
  ·exact R'.disj a ha
 ·rcases List.mem_cons.mp q with q | q
  ·exact Nat.lt_irrefl _ (Nat.lt_of_lt_of_le R0.sz (q ▸ hx))
  ·exact R'.sys q
 ·rcases List.mem_cons.mp hp with rfl | hp
  ·exact ⟨o, hv.2.2, rfl⟩
  ·obtain ⟨y, e, r⟩ := R'.cells p hp
   exact ⟨y, e, r.seqs ks (Nat.le_refl _)⟩
theorem Xs.freeze {a : Addr} {o : Obj} {st : List Stmt} (h : ∀ β, VLe c.β β -> β.mem a = some o -> Xs (c.ext c.F β) env st σ N R) : Xs c env st ((a, .obj o) :: σ) N R := fun V A s hA Rp hV => by
 obtain ⟨o', e, rfl⟩ := Rp.cells _ (.head _)
 have nd := Rp.nodup
 have hm : (vw c.F σ s).mem a = some o' := vw_some.mpr ⟨Rp.disj a (.head _), (List.nodup_cons.mp nd).1, e⟩
 have od := Out.sub Rp (σ' := σ) (fun p hp => .tail _ hp) (List.nodup_cons.mp nd).2
 have run := h (vw c.F σ s) od.rep.base hm (vw c.F σ s) A s ⟨hA.handled, hA.depth, hA.units⟩ (od.rep.ext (.refl _)) (.refl _)
 exact wm run (fun f s1 ⟨σ1, o1, q⟩ => ⟨σ1, od.trans (o1.unext od.rep), q⟩)
theorem K_makes (P : Params) : makesIn (KK P) TC = true := by kernel_rfl
theorem K_init (P : Params) : findIn (KK P) (.ref TC) "__init__" = some (some (.ref 60)) := by kernel_rfl
theorem K_60 (P : Params) : typeIn (KK P) (.ref 60) = some (.type "function") := by kernel_rfl
theorem W.cls (B : Base c) {pos : List Value} {kw : List (Str × Value)} {V : View} {QQ : PV -> Store -> Prop}
  (h : ∀ x dx β, VLe c.β β -> VLe V β -> β.mem x = some (instObj TC dx) -> C { c.ext c.F β with d := c.d + 1, u := c.u + 1 } (.call (.ref 60) ⟨.ref x :: pos, kw⟩) β ((dx, .inst [] []) :: σ) (ret fun p σ' => p = .none /\ QQ (.raw (.ref x)) ((x, .obj (instObj TC dx)) :: σ'))) :
  W c (PySem.call (.ref TC) pos kw) V σ (ret QQ) := fun A s hA Rp hV => by
 refine wpAny_call ?_
 have X := B.In Rp.le
 have o1 := Rp.push_cell emptyDict (.inst [] []) ⟨rfl, [], 0, rfl, .nil⟩
 have o2 := o1.rep.push_frz (instObj TC s.heap.objs.size)
 obtain ⟨hh, g, d, t, os⟩ := s
 dsimp only at o1 o2
 rw [Heap.size_push] at o2
 refine make_core (makes_of X (K_makes _)) (looks_findIn X (K_init _)) (fun self => bind_fn X self (K_60 _)) (.inl rfl) ?_
 have oo := o1.trans o2.1
 have run := h (hh.objs.size + 1) hh.objs.size _ oo.rep.base (hV.trans oo.view) o2.2 (A.under (.builtin "type.__call__" ⟨.ref TC :: pos, kw⟩)) ⟨(hh.push emptyDict).push (instObj TC hh.objs.size), g, d, t, os⟩
  ⟨hA.handled, Nat.succ_le_succ hA.depth, Nat.succ_le_succ hA.units⟩ ⟨oo.rep.nodup, oo.rep.disj, oo.rep.old, oo.rep.sys, oo.rep.big, .refl _, oo.rep.cells⟩ (.refl _)
 refine codeAny_mono run fun r s' hq2 => ?_
 obtain ⟨v, σ', er, o', p, rp, ep, q⟩ := hq2
 subst er ep
 have := rp.inv_none
 subst this
 refine ⟨rfl, _, ?_, _, .raw _, q⟩
 exact Out.thaw (β := vw c.F ((hh.objs.size, .inst [] []) :: σ) ⟨(hh.push emptyDict).push (instObj TC hh.objs.size), g, d, t, os⟩) Rp (Nat.le_succ _) (fun _ _ e => by cases e) ⟨o'.rep.nodup, o'.rep.disj, o'.rep.old, o'.rep.sys, o'.rep.big, o'.rep.base, o'.rep.cells⟩ oo.view o2.2 ⟨o'.same.1, o'.same.2⟩
  (fun a ha y e => o'.kept a ha y (oo.kept a ha y e))
theorem W.newInst (B : Base c) {x dx : Addr} {vs : List PV} (S : Self c x dx) {name : Str} {q : PV} {v : Value} {V : View} {σ' : Store} {Q : Unit -> View -> Store -> Prop} (hv : VR V q v) (U : Up dx (.inst ns vs) (.inst (ns ++ [name]) (vs ++ [q])) σ σ') (hn : name ∉ ns)
  (ht : takerIn (KK c.P) TC name = some none) (hz : ns.length <= 100) (h : ∀ V', VLe V V' -> Q () V' σ') : W c (setAttr (.ref x) name v) V σ Q := fun A s hA R hV => by
 obtain ⟨hl, es, n, hd, hr⟩ := R.inst U.mem
 have I := R.instAt S hd
 refine set_plain (B.In R.le) I (K_sa _) (osa_open (B.In R.le) I (K_plain _) ht fun b => ?_)
 obtain ⟨cd, hc, hd'⟩ := any_some (K_hd c.P)
 refine wb (wq (wb (wb (wpAny_loadPart (o := instObj TC dx) I.at_ (wb (Looks.here (s := { s with toks := s.toks + 1 }) (looks_clsIn (B.In R.le) hc) ?_))))))
 rw [hd']
 refine wq (a := some dx) (wb (wq (wb ?_)))
 unfold nsSet
 refine wb (wb (wpAny_askSetting (wq (wb (wpAny_mkText (wb (wpAny_loadPart hd ?_)))))))
 dsimp only
 have c1 : (!(es.toArray).any (·.key.isStr name) && (es.toArray).any (·.refKey)) = false := by
  rw [<- Array.any_toList, <- Array.any_toList]
  show (!es.any _ && es.any _) = false
  rw [hr.noRef, Bool.and_false]
 rw [aRefKeyMayBeTheName_at, c1]
 refine wpAny_updatePart hd ?_
 have hs := Heap.SameBut.update s.heap dx (Obj.putName name (PyData.keyHash c.w.params name) (.str name (s.toks + 1)) v)
 have hput := putName_dict name (PyData.keyHash c.w.params name) (.str name (s.toks + 1)) v es n
 have ho : (s.heap.update dx (Obj.putName name (PyData.keyHash c.w.params name) (.str name (s.toks + 1)) v)).get? dx = some (dictOf (putL name (PyData.keyHash c.w.params name) (.str name (s.toks + 1)) v es) (putN name es n)) := by
  rw [<- hput]
  exact Heap.get?_update_self _ hd (by rw [hput]; rfl)
 have hset := hr.new (tk := s.toks + 1) (by rw [zip_fst hl]; exact hn) (hv.mono hV)
 have ez : (ns ++ [name]).zip (vs ++ [q]) = ns.zip vs ++ [(name, q)] := by rw [List.zip_append hl]; rfl
 rw [<- ez] at hset
 have out := R.upd U hs ho (tk := s.toks + 1 + 1) (ht := by lia) ⟨by simp [hl], _, _, rfl, hset⟩
 refine wb (wpAny_lookBehind ho (pastItsLine_dict ?_) ?_)
 ·rw [List.size_toArray, hset.length, sizeLine_eq, ez, List.length_append, List.length_zip]
  simp only [List.length_cons, List.length_nil]
  lia
 exact wq ⟨σ', out, h _ (hV.trans out.view)⟩
inductive Ksn (L : Addr) (ns : List Str) (x name : Str) (xa dx : Addr) (N : Store -> Prop) (q : PV) (σ : Store) : Prop
 | mk (ins : List Str) (ivs : List PV) (vs : List (Option PV)) (τ τ' : Store) (e : σ = (L, .loc ns vs) :: τ) (k : Lk ns vs x (.raw (.ref xa))) (u : Up dx (.inst ins ivs) (.inst (ins ++ [name]) (ivs ++ [q])) τ τ') (h : name ∉ ins) (l : ins.length <= 100) (n : N ((L, .loc ns vs) :: τ')) : Ksn L ns x name xa dx N q σ
theorem X.selfN {xa dx : Addr} {x name : Str} {p1 p2 pos : Pos} {value : PySem.Expr} (B : Base c) (S : Self c xa dx) (F : Fm env L ns) (ht : takerIn (KK c.P) TC name = some Option.none)
  (h : E c env value σ (Ksn L ns x name xa dx N))
  (hs : autoParam (swapsWith value (some (.Attribute (.Name x p1) name p2)) pos.line env = pure false) aRfl) : X c env (.Assign [.Attribute (.Name x p1) name p2] value pos) σ N R := by
 refine X.setattr (E.mono h fun q σ1 hq3 => ?_) hs
 obtain ⟨ins, ivs, vs, τ, τ', e, hk, U, hn, hz, hN⟩ := hq3
 subst e
 refine E.nm F hk fun V vo vp ro rp => ?_
 have := ro.inv_raw
 subst this
 exact W.newInst B S rp (.tail U) hn ht hz fun _ _ => hN
noncomputable def nsK : List (Str × Nat × Str) := [("http://www.w3.org/XML/1998/namespace", 322, "xml"), ("http://www.w3.org/1999/xhtml", 324, "html"), ("http://www.w3.org/1999/02/22-rdf-syntax-ns#", 326, "rdf"), ("http://schemas.xmlsoap.org/wsdl/", 328, "wsdl"),
 ("http://www.w3.org/2001/XMLSchema", 330, "xs"), ("http://www.w3.org/2001/XMLSchema-instance", 332, "xsi"), ("http://purl.org/dc/elements/1.1/", 334, "dc")]
noncomputable def nsE (P : Params) : List DictEntry := nsK.map fun x => ⟨PyData.keyHash P x.1, .str x.1 x.2.1, .str x.2.2 (x.2.1 + 1)⟩
noncomputable def nsV : List (Str × Value) := nsK.map fun x => (x.1, .str x.2.2 (x.2.1 + 1))
theorem at37 (P : Params) : (KK P).lookup 37 = some (dictOf (nsE P) 7) := by kernel_rfl
theorem nsE_is {prog : Program} {w : World} : (dictOf (nsE w.params) 7).IsDictOf (PySem.strKind prog w) nsV :=
 ⟨(nsE w.params).toArray, 7, ⟨rfl, rfl, rfl⟩, rfl, fun e he => by
  obtain ⟨x, _, rfl⟩ := List.mem_map.mp (List.mem_toArray.mp he)
  exact ⟨x.1, strKind_is prog w x.1 x.2.1, rfl⟩, by
  unfold nsE nsV
  generalize nsK = l
  induction l with
  | nil => exact Pairs.nil
  | cons x r ih => exact Pairs.cons (strKind_is prog w x.1 x.2.1) rfl ih, by decide +kernel⟩
theorem HasT.baseDict {d : Addr} {od : Obj} {kvs : List (Str × Value)} (hb : c.β.mem d = some od) (hd : od.IsDictOf (PySem.strKind c.prog c.w) kvs) : HasT c (.raw (.ref d)) σ "dict" := fun s v R hv => by
 have := hv.inv_raw
 subst this
 have hm : s.heap.DictOf (PySem.strKind c.prog c.w) d kvs := Heap.dictOf_iff.mpr ⟨od, R.le _ _ hb, hd⟩
 exact ⟨hm.mapOf.typeIs, hm.mapOf.noDict⟩
theorem Ca.itemsB {a : Addr} {od : Obj} {kvs : List (Str × Value)} (hb : c.β.mem a = some od) (hd : od.IsDictOf (PySem.strKind c.prog c.w) kvs) (hs : (a == sysModules) = false) (h : ∀ v, Q (.raw (.ref v)) (σ ++ [(v, .obj (viewO a))])) : Ca c (.builtin "dict.items") [.raw (.ref a)] σ Q := fun V vs hv A s hA R hV => by
 obtain ⟨v, _, rfl, rv, hv'⟩ := hv.inv_cons
 have e0 := hv'.inv_nil
 subst e0
 have := rv.inv_raw
 subst this
 have hm : s.heap.DictOf (PySem.strKind c.prog c.w) a kvs := Heap.dictOf_iff.mpr ⟨od, R.le _ _ hb, hd⟩
 refine call_meetsIn F.slot_dict_items hm.typeIs F.entry_dict_items (F.args_dict_items_1 _) (meets_dict_items (PySem.strKind c.prog c.w) a hs) ⟨⟨_, hm⟩, ?_⟩
 have o := (R.push_cell (viewO a) (.obj (viewO a)) rfl).perm_r (σ₂ := σ ++ [(s.heap.objs.size, .obj (viewO a))]) snoc_perm
 exact ⟨_, o, _, .raw _, h _⟩
theorem Rep.newCell2 {h' : Heap} {tk : Nat} {a : Addr} {x : Cell} {o : Obj} (R : Rep c σ s) (hk : ∀ b o, s.heap.get? b = some o -> h'.get? b = some o) (ha : s.heap.objs.size <= a) (ho : h'.get? a = some o) (hc : CR c.prog c.w (vw c.F ((a, x) :: σ) { s with heap := h', toks := tk }) x o) (ht : s.toks <= tk) :
  Out c σ s ((a, x) :: σ) { s with heap := h', toks := tk } := R.newC hk ha ho (fun _ => hc) ht
noncomputable def litV : Value -> PV
 | .str y _ => .str y
 | u => .raw u
theorem Ca.listItems {v a : Addr} {od : Obj} {kvs : List (Str × Value)} (hb : c.β.mem a = some od) (hd : od.IsDictOf (PySem.strKind c.prog c.w) kvs) (hz : kvs.length <= sizeLine)
  (h : ∀ q, Q (.raw (.ref q)) (σ ++ [(q, .list ((kvs.map fun x => (x.1, litV x.2)).map pairOf))])) :
  Ca c (.type "list") [.raw (.ref v)] (σ ++ [(v, .obj (viewO a))]) Q := fun V vs hv A s hA R hV => by
 obtain ⟨u, _, rfl, rv, hv'⟩ := hv.inv_cons
 have e0 := hv'.inv_nil
 subst e0
 have := rv.inv_raw
 subst this
 obtain ⟨o, ho, rfl⟩ := R.cells (v, .obj (viewO a)) (memR _ (.head _))
 obtain ⟨ep, hat⟩ := KdkAt.of hd
 refine tkG (kdx_call (knd := PySem.strKind c.prog c.w) (kvs := kvs) (ep := ep) hA.handled ⟨_, ho, rfl, rfl⟩ (hat.dictAt (R.le _ _ hb)) hz (fun h' tk acc c' as hk hS hlen hG hacc ht => ?_))
 have nd := R.nodup
 have od := Out.sub R (σ' := σ) (fun p hp => memL _ hp) (nodup_left nd)
 have R' := od.rep
 have fresh : ∀ b, s.heap.objs.size <= b -> b ∉ c.F /\ b ∉ addrs σ := fun b hb => ⟨fun q => Nat.lt_irrefl _ (Nat.lt_of_lt_of_le (R'.ltF q) hb), fun q => Nat.lt_irrefl _ (Nat.lt_of_lt_of_le (R'.lt q) hb)⟩
 have ea : acc = (as.map Value.ref).toArray := by rw [<- hacc, Array.toArray_toList]
 subst ea
 have out := R'.newCell2 (a := s.heap.objs.size) (x := .list ((kvs.map fun x => (x.1, litV x.2)).map pairOf)) (tk := tk) hk (Nat.le_refl _) hS
  ⟨as.map Value.ref, c', rfl, VRs.ofGet (by simp [hlen]) fun i p u hp hu => by
   rw [List.getElem?_map] at hu
   cases ha : as[i]? with
   | none => rw [ha] at hu; cases hu
   | some b =>
    rw [ha] at hu
    have hu' : Value.ref b = u := by simpa using hu
    subst hu'
    obtain ⟨key, k, x, e1, e2, e3⟩ := hG.pairs i b ha
    obtain ⟨t, rfl⟩ := strKind_str e2
    rw [List.getElem?_map, List.getElem?_map, e1] at hp
    have hp' := (Option.some.inj hp).symm
    subst hp'
    have hlt := hG.above b (List.mem_of_getElem? ha)
    refine VR.tup (vs := [Value.str k t, x]) (n := 0) (vw_some.mpr ⟨(fresh b (Nat.le_of_lt hlt)).1, fun q => ?_, e3⟩) (.cons (.str _ _) (.cons ?_ .nil))
    ·rcases List.mem_cons.mp q with q | q
     ·exact Nat.lt_irrefl _ (q ▸ hlt)
     ·exact (fresh b (Nat.le_of_lt hlt)).2 q
    ·dsimp only
     cases x <;> first | exact .str _ _ | exact .raw _⟩ ht
 exact ⟨_, (od.trans out).perm_r snoc_perm, _, .raw _, h _⟩
end
noncomputable def fd60 : FuncData := getFd (a := 60) rfl
noncomputable def bd60 : List Stmt := getBody (fd := fd60) rfl
theorem at60 (P : Params) : FnAt P 60 fd60 := by kernel_rfl
noncomputable abbrev N60 : List Str := ["self", "write", "with_comments", "strip_text", "rewrite_prefixes", "qname_aware_tags", "qname_aware_attrs", "exclude_attrs", "exclude_tags"]
theorem ok60 : FnOk fd60 N60 [] bd60 := ⟨rfl, rfl, rfl, rfl, by decide +kernel, by decide, by decide +kernel⟩
theorem cd60 (P : Params) : codeIn (KK P) fd60.code fd60.qualname = true := by kernel_rfl
section
variable {c : Cx} {env : Env} {σ σ' τ : Store} {s s' : Shared} {Q : PV -> Store -> Prop} {N : Store -> Prop} {R : PV -> Store -> Prop} {L : Addr} {ns : List Str} {vs : List (Option PV)}
theorem bind60 (B : Base c) {x b : Addr} {rw : Bool} (s : Shared) (hl : Le c.β s.heap) :
  BindsTo s fd60 ⟨[.ref x, .ref b], [("with_comments", .bool true), ("rewrite_prefixes", .bool rw)]⟩ (N60.zip [.ref x, .ref b, .bool true, .bool false, .bool rw, .none, .none, .none, .none]) :=
 kp_binds (B.In hl) (fun S => by kernel_rfl)
noncomputable def xml1 : List (U × Px) := [(1, 1)]
noncomputable def nsL : List (U × Px) := [(1, 1), (6, 9), (7, 10), (8, 11), (2, 2), (9, 12), (10, 13)]
theorem nsL_pr : ((nsV.map fun x => (x.1, litV x.2)).map pairOf) = nsL.map pr := by rfl
noncomputable def nsX (l3 : Addr) (rw : Bool) : Store := if rw = true then [] else [(l3, .list (nsL.map pr))]
noncomputable def nsR (l3 : Addr) (rw : Bool) : List PV := if rw = true then [] else [.raw (.ref l3)]
noncomputable abbrev INS17 : List Str := ["_write", "_data", "_with_comments", "_strip_text", "_exclude_attrs", "_exclude_tags", "_rewrite_prefixes", "_qname_aware_tags", "_find_qname_aware_attrs", "_declared_ns_stack", "_ns_stack", "_prefix_map", "_preserve_space", "_pending_start", "_root_seen", "_root_done", "_ignored_depth"]
noncomputable abbrev INV17 (b data D Nn pm ps : Addr) (rw : Bool) : List PV := [.raw (.ref b), .raw (.ref data), .bool true, .bool false, .none, .none, .bool rw, .none, .none, .raw (.ref D), .raw (.ref Nn), .raw (.ref pm), .raw (.ref ps), .none, .bool false, .bool false, .int 0]
theorem taker {P : Params} {name : Str} (h : name ∈ INS) : takerIn (KK P) TC name = some Option.none := by simpa using List.all_eq_true.mp (INS_set P) name h
theorem Cc60 (B : Base c) {x dx b : Addr} {rw : Bool} (S : Self c x dx) (hd : c.d < recursionLimit) {V : View}
  (h : ∀ data D Nn pm ps l1 l2 l3, Q .none ((ps, .list [.bool false]) :: (pm, .dict []) :: (l2, .list []) :: (Nn, .list (nsR l3 rw ++ [.raw (.ref l2)])) :: (D, .list [.raw (.ref l1)]) :: (l1, .list (xml1.map pr)) :: (data, .list []) :: (dx, .inst INS17 (INV17 b data D Nn pm ps rw)) :: (σ ++ nsX l3 rw))) :
  C c (.call (.ref 60) ⟨[.ref x, .ref b], [("with_comments", .bool true), ("rewrite_prefixes", .bool rw)]⟩) V ((dx, .inst [] []) :: σ) (ret Q) := fun A s hA Rp hV => by
 refine C.fn0 (c := c) (ps := N60) (os := []) (pvs := [.raw (.ref x), .raw (.ref b), .bool true, .bool false, .bool rw, .none, .none, .none, .none]) B (at60 _) ok60 (cd60 _) hd (bind60 B s Rp.le) (.cons (.raw _) (.cons (.raw _) (.cons (.bool _) (.cons (.bool _) (.cons (.bool _) (.cons .none (.cons .none (.cons .none (.cons .none .nil))))))))) rfl (fun L hL => ?_) hA Rp
 have B' := B.up (c.d + 1) (c.u + 3)
 have F : Fm (callEnv fd60 L 60) L N60 := ⟨hL, rfl⟩
 have S' : Self { c with d := c.d + 1, u := c.u + 3 } x dx := ⟨S.at_⟩
 clear hV Rp hA
 show Xs _ _ _ ((L, .loc N60 [some (.raw (.ref x)), some (.raw (.ref b)), some (.bool true), some (.bool false), some (.bool rw), some .none, some .none, some .none, some .none]) :: (dx, .inst [] []) :: σ) _ _
 refine Xs.cons (X.selfN B' S' F (taker (by decide)) (E.n F ⟨_, _, _, _, _, rfl, by trivial, by trivial, by decide, by decide, ?_⟩))
 refine Xs.cons (X.selfN B' S' F (taker (by decide)) (E.list (Es.nil ⟨by decide, _, _, rfl, fun data => ?_⟩)))
 refine ⟨_, _, _, _, _, rfl, by trivial, by trivial, by decide, by decide, ?_⟩
 refine Xs.cons (X.selfN B' S' F (taker (by decide)) (E.n F ⟨_, _, _, _, _, rfl, by trivial, by trivial, by decide, by decide, ?_⟩))
 refine Xs.cons (X.selfN B' S' F (taker (by decide)) (E.n F ⟨_, _, _, _, _, rfl, by trivial, by trivial, by decide, by decide, ?_⟩))
 refine Xs.cons (X.selfN B' S' F (taker (by decide)) (E.ifexp (T.val (E.n F (Tr.none ?_)))))
 rw [if_neg (by decide)]
 refine E.none ⟨_, _, _, _, _, rfl, by trivial, by trivial, by decide, by decide, ?_⟩
 refine Xs.cons (X.selfN B' S' F (taker (by decide)) (E.ifexp (T.val (E.n F (Tr.none ?_)))))
 rw [if_neg (by decide)]
 refine E.none ⟨_, _, _, _, _, rfl, by trivial, by trivial, by decide, by decide, ?_⟩
 refine Xs.cons (X.selfN B' S' F (taker (by decide)) (E.n F ⟨_, _, _, _, _, rfl, by trivial, by trivial, by decide, by decide, ?_⟩))
 refine Xs.cons (X.iff (T.val (E.n F (Tr.none ?_))))
 rw [if_neg (by decide)]
 refine Xs.cons (X.selfN B' S' F (taker (by decide)) (E.none ⟨_, _, _, _, _, rfl, by trivial, by trivial, by decide, by decide, ?_⟩))
 refine Xs.nil ?_
 refine Xs.cons (X.iff (T.val (E.n F (Tr.none ?_))))
 rw [if_neg (by decide)]
 refine Xs.cons (X.selfN B' S' F (taker (by decide)) (E.none ⟨_, _, _, _, _, rfl, by trivial, by trivial, by decide, by decide, ?_⟩))
 refine Xs.nil ?_
 refine Xs.cons (X.selfN B' S' F (taker (by decide)) (E.list (Es.cons (E.list (Es.cons (E.tuple (Es.cons (E.str (Es.cons (E.str (Es.nil ⟨le_sz (by show 2 <= 16777216; decide), Es.nil ⟨le_sz (by show 1 <= 16777216; decide), _, _, rfl, fun l1 => ?_⟩⟩)))))))))))
 refine Es.nil ⟨le_sz (by show 1 <= 16777216; decide), _, _, rfl, fun D => ?_⟩
 refine ⟨_, _, _, _, _, rfl, by trivial, by trivial, by decide, by decide, ?_⟩
 refine Xs.cons (X.selfN B' S' F (taker (by decide)) (E.list (Es.nil ⟨by decide, _, _, rfl, fun Nn => ?_⟩)))
 refine ⟨_, _, _, _, _, rfl, by trivial, by trivial, by decide, by decide, ?_⟩
 have go : ∀ l3 : Addr, Xs { c with d := c.d + 1, u := c.u + 3 } (callEnv fd60 L 60) (bd60.drop 12) ((L, .loc N60 [some (.raw (.ref x)), some (.raw (.ref b)), some (.bool true), some (.bool false), some (.bool rw), some .none, some .none, some .none, some .none]) :: (Nn, .list (nsR l3 rw)) :: (D, .list [.raw (.ref l1)]) :: (l1, .list (xml1.map pr)) :: (data, .list []) :: (dx, .inst (INS17.take 11) ((INV17 b data D Nn 0 0 rw).take 11)) :: (σ ++ nsX l3 rw)) (fun σ' => fin Q .none σ') (fin Q) := fun l3 => by
  have ow : ownName c.P "_ns_stack" = true := List.all_eq_true.mp (INS_own c.P) _ (by decide)
  refine Xs.cons (X.expr (E.meth (E.attr (E.n F (At.inst B' S' (ns := INS17.take 11) (p := .raw (.ref Nn)) 10 (.tail _ (.tail _ (.tail _ (.tail _ (.tail _ (.head _)))))) (by decide) rfl rfl ow (by rfl) (Gm.append (l := nsR l3 rw) (.tail _ (.head _)) (Es.cons (E.list (Es.nil ⟨by decide, _, _, rfl, fun l2 => ?_⟩))))))) rfl))
  refine Es.nil ⟨.builtin, Ca.append (σ' := ((L, .loc N60 [some (.raw (.ref x)), some (.raw (.ref b)), some (.bool true), some (.bool false), some (.bool rw), some .none, some .none, some .none, some .none]) :: (l2, .list []) :: (Nn, .list (nsR l3 rw ++ [.raw (.ref l2)])) :: (D, .list [.raw (.ref l1)]) :: (l1, .list (xml1.map pr)) :: (data, .list []) :: (dx, .inst (INS17.take 11) ((INV17 b data D Nn 0 0 rw).take 11)) :: (σ ++ nsX l3 rw))) (by trivial) (by cases rw <;> (unfold nsR; exact le_sz (by simp))) ?_⟩
  refine Xs.cons (X.selfN B' S' F (taker (by decide)) (E.dict0 rfl fun pm => ?_))
  refine ⟨_, _, _, _, _, rfl, by trivial, by trivial, by decide, by decide, ?_⟩
  refine Xs.cons (X.selfN B' S' F (taker (by decide)) (E.list (Es.cons (E.bool (Es.nil ⟨by decide, _, _, rfl, fun ps => ?_⟩)))))
  refine ⟨_, _, _, _, _, rfl, by trivial, by trivial, by decide, by decide, ?_⟩
  refine Xs.cons (X.selfN B' S' F (taker (by decide)) (E.none ⟨_, _, _, _, _, rfl, by trivial, by trivial, by decide, by decide, ?_⟩))
  refine Xs.cons (X.selfN B' S' F (taker (by decide)) (E.bool ⟨_, _, _, _, _, rfl, by trivial, by trivial, by decide, by decide, ?_⟩))
  refine Xs.cons (X.selfN B' S' F (taker (by decide)) (E.bool ⟨_, _, _, _, _, rfl, by trivial, by trivial, by decide, by decide, ?_⟩))
  refine Xs.cons (X.selfN B' S' F (taker (by decide)) (E.int ⟨_, _, _, _, _, rfl, by trivial, by trivial, by decide, by decide, ?_⟩))
  exact Xs.nil ⟨_, .cons _ (.refl _), h data D Nn pm ps l1 l2 l3⟩
 cases rw with
 | true =>
  refine Xs.cons (X.iff (T.not (T.val (E.n F (Tr.bool ?_)))))
  rw [if_neg (by decide)]
  have g := go 0
  rw [show nsX 0 true = [] from rfl, List.append_nil] at g
  exact Xs.nil g
 | false =>
  refine Xs.cons (X.iff (T.not (T.val (E.n F (Tr.bool ?_)))))
  rw [if_pos (by decide)]
  refine Xs.cons (X.expr (E.meth (E.attr (E.n F (At.inst B' S' (ns := INS17.take 11) (vs := (INV17 b data D Nn 0 0 false).take 11) (p := .raw (.ref Nn)) 10 (.tail _ (.tail _ (.tail _ (.tail _ (.tail _ (.head _)))))) (by decide) rfl rfl (List.all_eq_true.mp (INS_own c.P) _ (by decide)) (by rfl) (Gm.append (l := []) (.tail _ (.head _)) (Es.cons ?_)))) rfl)))
  have hb : c.β.mem 37 = some (dictOf (nsE c.P) 7) := B.K _ _ (at37 _)
  refine E.call (E.globB B' rfl rfl rfl rfl (by kernel_rfl) rfl ⟨_, rfl, Es.cons (E.meth (E.globK B' rfl rfl rfl (by kernel_rfl) (Gm.builtin (HasT.baseDict (c := { c with d := c.d + 1, u := c.u + 3 }) hb nsE_is) _root_.PySem.F.plainAttrs_dict _root_.PySem.F.slot_dict_items _root_.PySem.F.type_dict_items (Es.nil ⟨.builtin, Ca.itemsB (c := { c with d := c.d + 1, u := c.u + 3 }) hb nsE_is rfl fun v => Es.nil ⟨.type, Ca.listItems (c := { c with d := c.d + 1, u := c.u + 3 }) hb nsE_is (le_sz (by decide)) fun l3 => ?_⟩⟩))))⟩)
  rw [nsL_pr]
  refine Es.nil ⟨.builtin, Ca.append (l := []) (.tail .head) (le_sz (by decide)) (Xs.nil (go l3))⟩
end
section
open Sem (wp)
theorem md_get : typeLookup (.type "method_descriptor") "__get__" = pure (some (.builtin "method_descriptor.__get__")) := by rw [typeLookup_type, builtinLookup_eq_fast]; kernel_rfl
theorem md_set : typeLookup (.type "method_descriptor") "__set__" = pure Option.none := am_miss_of_fast (by kernel_rfl)
theorem md_del : typeLookup (.type "method_descriptor") "__delete__" = pure Option.none := am_miss_of_fast (by kernel_rfl)
theorem md_plain : plainId "method_descriptor.__get__" = true := by decide +kernel
theorem md_kind : builtinKind "method_descriptor.__get__" = some .slot := by decide +kernel
theorem md_split : splitId "method_descriptor.__get__" = some ("method_descriptor", "__get__") := by decide +kernel
theorem md_entry : entryFor table "method_descriptor.__get__" = some Builtin.«method_descriptor.__get__» := entryFor_of_tree (by kernel_rfl)
theorem md_args (a b c : Value) : argsOk "method_descriptor.__get__" ⟨[a, b, c], []⟩ := by unfold argsOk; kernel_rfl
theorem md_sub : isSubtype (.type "method_descriptor") (.type "method_descriptor") = pure true := by rw [isSubtype_type]; kernel_rfl
theorem sub_ll : isSubtype (.type "list") (.type "list") = pure true := by rw [isSubtype_type]; kernel_rfl
section
variable {prog : Program} {w : World} {A : Around} {E : Value -> Shared -> Prop} {s : Shared} {Q : Value -> Shared -> Prop}
theorem call_md {a : Addr} (hT : s.TypeIs (.ref a) "list") (h : Q (.ref s.heap.objs.size) { s with heap := s.heap.push (bmObj "list.append" (.ref a)) }) :
  wpAny (model prog w) A (PySem.call (.builtin "method_descriptor.__get__") [.builtin "list.append", .ref a, .type "list"]) Q E s := by
 have L1 : Looks (model prog w) s.heap (isInstance (.builtin "list.append") (.type "method_descriptor")) true := Looks.of_pure (by
  unfold isInstance
  rw [F.type_list_append]
  show (isSubtype _ _) = _
  exact md_sub)
 have key : wpAny (model prog w) A.in1 (Builtin.«method_descriptor.__get__» ⟨[.builtin "list.append", .ref a, .type "list"], []⟩) (fun fin s' => ∃ v, fin = .done (.ret v) /\ Q v s') E s := by
  have e : Builtin.«method_descriptor.__get__» ⟨[.builtin "list.append", .ref a, .type "list"], []⟩ = ((do
    if !(<- isInstance (.ref a) (.type "list")) then
     rule "descr.get.wrong-instance"
     raiseError "TypeError" s!"descriptor '{(Str.ofString "append").toString}' for '{<- typeName (.type "list")}' objects doesn't apply to a '{<- PySem.typeNameOf (.ref a)}' object" : Sem Unit) >>= fun _ => newFields "builtin_function_or_method" [.builtin "list.append", .ref a] >>= fun r => PySem.ret r) := by kernel_rfl
  rw [e]
  refine wb (wb (wpAny_isInstance hT sub_ll ?_))
  rw [if_neg (by decide)]
  refine wq ?_
  refine wb (wpAny_newObj_type ?_ (by size_fits))
  exact wq ⟨_, rfl, h⟩
 have L2 := fun q => @check_slot (model prog w) A.in1 E s "method_descriptor.__get__" "method_descriptor" "__get__" (.builtin "list.append") [.ref a, .type "list"] [] (fun _ s1 => wpAny (model prog w) A.in1 (Builtin.«method_descriptor.__get__» ⟨[.builtin "list.append", .ref a, .type "list"], []⟩) (fun fin s' => ∃ v, fin = .done (.ret v) /\ Q v s') E s1) md_kind md_split L1 (md_args _ _ _) q
 have L3 := L2 key
 refine wpAny_call (codeAny_call_builtin md_plain md_entry (wm L3 (fun _ s1 z => wm z (fun fin s' hq1 => ?_))))
 obtain ⟨v, e, q⟩ := hq1
 subst e
 exact q
theorem getattr_append {a : Addr} {vs : List Value} {n : Nat}
  (hx : s.heap.get? a = some (seqObj "list" vs.toArray n)) (h : Q (.ref s.heap.objs.size) { s with heap := s.heap.push (bmObj "list.append" (.ref a)), toks := s.toks + 1 }) :
  wpAny (model prog w) A (getAttr (.ref a) "append" true) Q E s := by
 obtain ⟨hp, g, d, tk, os⟩ := s
 have hT : ∀ tk', (⟨hp, g, d, tk', os⟩ : Shared).TypeIs (.ref a) "list" := fun _ => ⟨_, hx, rfl⟩
 have f3 := F.slot_list_getattribute.lookup
 have f4 := F.slot_list_getattribute.bind (.ref a)
 have f5 := am_list_getattr_none
 unfold getAttr getAttrBy
 repeat (any_goals (first | assumption | exact hT _ | wp_step))
 refine codeAny_call_builtin F.slot_list_getattribute.plain am_entry_list_getattribute (F.slot_list_getattribute.check _ _ _ _ _ _ _ _ (hT _) (F.args_list_getattribute_2 _ _) ?_)
 unfold Builtin.«object.__getattribute__»
 have g1 := F.slot_list_append.lookup
 have g2 := F.type_list_append
 have g3 := md_get
 have g4 := md_set
 have g5 := md_del
 repeat (any_goals (first | assumption | exact hT _ | ((with_reducible show wpAny _ _ (PySem.call (Value.builtin "method_descriptor.__get__") _ _) _ _ _); refine call_md (hT _) ?_) | wp_step))
end
end
section
variable {c : Cx} {env : Env} {σ σ' τ : Store} {s : Shared} {Q : PV -> Store -> Prop}
theorem At.append {a : Addr} {l : List PV} (hm : (a, Cell.list l) ∈ σ) (h : ∀ b, Q (.raw (.ref b)) (σ ++ [(b, .obj (bmObj "list.append" (.ref a)))])) : At c (.raw (.ref a)) "append" σ Q := fun V va hv A s hA R hV => by
 have := hv.inv_raw
 subst this
 obtain ⟨o, e, vs, n, rfl, rv⟩ := R.cells _ hm
 refine getattr_append e ?_
 have o1 := Out.toks R (s.toks + 1) (Nat.le_succ _)
 have o2 := (o1.rep.push_cell (bmObj "list.append" (.ref a)) (.obj (bmObj "list.append" (.ref a))) rfl).perm_r snoc_perm
 exact ⟨_, o1.trans o2, _, .raw _, h _⟩
theorem KeeperIs.cls (B : Base c) : KeeperIs c (.ref TC) σ := fun s R => ⟨.machine, fun M A E Q q => by
 have Y := makes_of (M := M) (B.In R.le) (K_makes _)
 obtain ⟨oc, od, cd, sl, hC, _⟩ := Y.obj
 unfold keeperOf
 refine wb (wpAny_load hC ?_)
 dsimp only
 refine wb (Y.call.here ?_)
 exact wq q⟩
noncomputable def CaK (c : Cx) (f : Value) (ps : List PV) (ks : List Str) (qs : List PV) (σ : Store) (Q : PV -> Store -> Prop) : Prop := ∀ V vs ws, VRs V ps vs -> VRs V qs ws -> W c (PySem.call f vs (ks.zip ws)) V σ (ret Q)
theorem E.callK2 {x n1 n2 : Str} {p pos kp1 kp2 : Pos} {e1 v1 v2 : PySem.Expr} (h : E c env (.Name x p) σ (fun pf σ1 => ∃ f, pf = .raw f /\ E c env e1 σ1 (fun p1 σ₂ => E c env v1 σ₂ (fun q1 σ3 => E c env v2 σ3 (fun q2 σ4 => KeeperIs c f σ4 /\ CaK c f [p1] [n1, n2] [q1, q2] σ4 Q)))))
  (hst : autoParam (backTo pos (starEach [e1] env) = [(false, eval e1 env)]) aRfl) : E c env (.Call (.Name x p) [e1] [⟨some n1, v1, kp1⟩, ⟨some n2, v2, kp2⟩] pos) σ Q := fun V A s hA R hV => by
 refine wpAny_Call_Name_kw (W.onr (h V) hA R hV (fun v s1 σ1 o1 pf rf hq1 => ?_))
 obtain ⟨f, e, q₁⟩ := hq1
 subst e
 have := rf.inv_raw
 subst this
 rw [hst]
 refine callWith_gen (evalArgs_kw rfl ?_)
 refine Calls.spliced_cons (W.onr (q₁ (vw c.F σ1 s1)) hA o1.rep (.refl _) (fun va s2 σ₂ o2 p1 r1 q₂ => ?_))
 refine Calls.spliced_nil ?_
 show wpAny _ _ (evalAll [(eval v1 env >>= fun v => standAt pos >>= fun _ => pure v), (eval v2 env >>= fun v => standAt pos >>= fun _ => pure v)]) _ _ _
 refine wpAny_evalAll_cons (wb (W.onr (q₂ (vw c.F σ₂ s2)) hA o2.rep (.refl _) (fun w1 s3 σ3 o3 k1 rk1 q3 => wb (wpAny_standAt (wq ?_)))))
 refine wpAny_evalAll_cons (wb (W.onr (q3 (vw c.F σ3 s3)) hA o3.rep (.refl _) (fun w2 s4 σ4 o4 k2 rk2 ⟨hk, q4⟩ => wb (wpAny_standAt (wq ?_)))))
 refine wpAny_evalAll_nil ?_
 obtain ⟨kp, hk⟩ := hk s4 o4.rep
 refine ⟨⟨kp, fun Q' q => hk _ _ _ _ q⟩, ?_⟩
 exact W.on (q4 (vw c.F σ4 s4) [va] [w1, w2] (.cons ((r1.mono o3.view).mono o4.view) .nil) (.cons (rk1.mono o4.view) (.cons rk2 .nil))) hA o4.rep (.refl _) (fun v s5 σ5 o5 q5 => ⟨σ5, (((o1.trans o2).trans o3).trans o4).trans o5, q5⟩)
theorem CaK.target (B : Base c) {b : Addr} {rw : Bool} (hd : c.d + 1 < recursionLimit)
  (h : ∀ x dx data D Nn pm ps l1 l2 l3, Q (.raw (.ref x)) ((x, .obj (instObj TC dx)) :: (ps, .list [.bool false]) :: (pm, .dict []) :: (l2, .list []) :: (Nn, .list (nsR l3 rw ++ [.raw (.ref l2)])) :: (D, .list [.raw (.ref l1)]) :: (l1, .list (xml1.map pr)) :: (data, .list []) :: (dx, .inst INS17 (INV17 b data D Nn pm ps rw)) :: (σ ++ nsX l3 rw))) :
  CaK c (.ref TC) [.raw (.ref b)] ["with_comments", "rewrite_prefixes"] [.bool true, .bool rw] σ Q := fun V vs ws hv hw => by
 obtain ⟨v, _, rfl, r, hv⟩ := hv.inv_cons
 have e0 := hv.inv_nil
 have e1 := r.inv_raw
 subst e0 e1
 obtain ⟨w1, _, rfl, r1, hw⟩ := hw.inv_cons
 obtain ⟨w2, _, rfl, r2, hw⟩ := hw.inv_cons
 have e0 := hw.inv_nil
 have e1 := r1.inv_bool
 have e2 := r2.inv_bool
 subst e0 e1 e2
 refine W.cls B fun x dx β hβ hV hm => ?_
 have B' : Base { c.ext c.F β with d := c.d + 1, u := c.u + 1 } := (B.ext hβ).up _ _
 exact Cc60 (c := { c.ext c.F β with d := c.d + 1, u := c.u + 1 }) B' ⟨hm⟩ hd fun data D Nn pm ps l1 l2 l3 => ⟨rfl, h x dx data D Nn pm ps l1 l2 l3⟩
theorem Bin.add_list {p q : PV} {l m : List PV} (hl : LV c σ p l) (hm : LV c σ q m) (hz : l.length + m.length <= sizeLine) (h : Q (.lst (l ++ m)) σ) : Bin c .Add p q σ Q := fun V va vb ra rb A s hA R hV => by
 obtain ⟨a, vs, n, rfl, ea, rva⟩ := hl s va R (ra.mono hV)
 obtain ⟨b, ws, n2, rfl, eb, rvb⟩ := hm s vb R (rb.mono hV)
 refine concat_meets ⟨_, ea, rfl⟩ ⟨_, eb, rfl⟩ noFill_list_add seq_list_add PySem.F.slot_list_add PySem.F.entry_list_add (PySem.F.args_list_add_2 _ _) (list_addW a b vs.toArray ws.toArray n n2 _ _ _ _ (by simpa [rva.length, rvb.length] using hz)) ⟨ea, eb, ?_⟩
 have e : vs.toArray ++ ws.toArray = (vs ++ ws).toArray := by simp
 rw [e]
 obtain ⟨o2, e2⟩ := R.push_frz { cls := .type "list", data := .seq (vs ++ ws).toArray }
 exact ⟨σ, o2, .lst (l ++ m), .lst e2 ((rva.append rvb).mono o2.view), h⟩
theorem Ca.chr {i : Int} (h0 : 0 <= i) (h1 : i <= 1114111) (h : Q (.str (Sl [i.toNat])) σ) : Ca c (.builtin "chr") [.int i] σ Q := fun V vs hv A s hA R hV => by
 obtain ⟨v, _, rfl, rv, hv'⟩ := hv.inv_cons
 have e0 := hv'.inv_nil
 subst e0
 obtain ⟨t, rfl⟩ := rv.inv_int
 exact chr_of_range h0 h1 (ret_toks R (Nat.le_succ _) (.str _ _) h)
theorem Es.strC {x : Str} {k : Nat} {p pos : Pos} {rest : List PySem.Expr} {Q : List PV -> Store -> Prop} (h : Es c env rest pos σ (Ke2 Q (.str x))) : Es c env (.Constant (.str x) k p :: rest) pos σ Q := Es.cons (E.str h) rfl
noncomputable def fd173 : FuncData := getFd (a := 173) rfl
noncomputable def bd173 : List Stmt := getBody (fd := fd173) rfl
theorem at173 (P : Params) : FnAt P 173 fd173 := by kernel_rfl
theorem ok173 : FnOk fd173 ["n"] ["signs"] bd173 := ⟨rfl, rfl, rfl, rfl, by decide +kernel, by decide, by decide +kernel⟩
theorem cd173 (P : Params) : codeIn (KK P) fd173.code fd173.qualname = true := by kernel_rfl
noncomputable def signsL : List Str := ["&", "<", ">", "\"", "\r", "\n", "\t", " ", "", "&lt;", "-->", "?"]
noncomputable def piece (n : Int) : Str := (signsL ++ [Sl [(n / 13 % 1114112).toNat]]).getD (n % 13).toNat Str.empty
theorem smallDiv (a : Int) {b : Int} (hb : b.natAbs.log2 / 30 + 1 <= 300) : Builtin.divisionGoesByPylong a b = false := by
 unfold Builtin.divisionGoesByPylong
 dsimp only
 rw [Bool.and_eq_false_iff]
 left
 split <;> simp <;> lia
theorem Ca173 (B : Base c) (hd : c.d < recursionLimit) {n : Int} (h : Q (.str (piece n)) σ) : Ca c (.ref 173) [.int n] σ Q := by
 refine Ca.fm (pvs' := [.int n]) (ns := ["n", "signs"]) (vs := [some (.int n), Option.none]) B (at173 _) ok173 (cd173 _) hd
  (fun s V vals _ hv => ⟨vals, by obtain ⟨v, _, rfl, _, hv⟩ := hv.inv_cons; rw [hv.inv_nil]; exact BindsTo.of_eq rfl, hv⟩) rfl rfl rfl fun L F B' => ?_
 refine Xs.cons ?_
 refine @X.asg _ _ _ _ _ _ _ _ _ _ _ F.lo F.loc ?_ (by kernel_rfl)
 refine E.lst ?_
 iterate 12 refine Es.strC ?_
 refine Es.nil ⟨le_sz (by show 12 <= 16777216; decide), _, _, _, rfl, by trivial, ?_⟩
 have h13 : 0 <= n % 13 /\ n % 13 < 13 := ⟨Int.emod_nonneg _ (by decide), Int.emod_lt_of_pos _ (by decide)⟩
 have hch : 0 <= n / 13 % 1114112 /\ n / 13 % 1114112 < 1114112 := ⟨Int.emod_nonneg _ (by decide), Int.emod_lt_of_pos _ (by decide)⟩
 refine Xs.cons (X.return (E.sub (E.binop (E.n F ?_))))
 refine E.lst (Es.cons ?_)
 refine E.call (E.globB B' rfl rfl rfl rfl (by kernel_rfl) rfl ⟨_, rfl, ?_⟩)
 refine Es.cons (E.binop (E.binop (E.n F (E.int (Bin.floordiv_int (by decide) (smallDiv _ (by decide)) (E.int (Bin.mod_int (by decide) ?_)))))))
 refine Es.nil ⟨.builtin, Ca.chr hch.1 (by lia) (Es.nil ⟨le_sz (by show 1 <= 16777216; decide), ?_⟩)⟩
 refine Bin.add_list (l := signsL.map .str) .lst .lst (le_sz (by show 13 <= 16777216; decide)) ?_
 refine E.binop (E.n F (E.int (Bin.mod_int (by decide) ?_)))
 refine It.lst h13.1 (by lia) (p := .str (piece n)) ?_ ⟨_, .cons _ (.refl _), h⟩
 have hl : (n % 13).toNat < 13 := by lia
 unfold piece
 generalize (n % 13).toNat = k at hl
 generalize Sl [(n / 13 % 1114112).toNat] = y
 have e : signsL.map PV.str ++ [PV.str y] = (signsL ++ [y]).map PV.str := rfl
 have hk : k < (signsL ++ [y]).length := hl
 rw [e, List.getElem?_map, List.getD_eq_getElem?_getD, List.getElem?_eq_getElem hk]
 rfl
theorem E.tstr (B : Base c) {y : Str} {k : Nat} {pos : Pos} (h : ∀ t, Q (.tstr y t) σ) : E c env (.Constant (.str y) k pos) σ Q := fun V =>
 (Fresh.const B V).mono fun v V' σ' hV hq1 => by
  obtain ⟨t, e1, h0, _, h1, e2⟩ := hq1
  subst e1 e2
  exact ⟨_, .tstr _ _ h0 h1, h t⟩
theorem Es.pairC (B : Base c) {x y : Str} {k1 k2 k3 : Nat} {p1 p2 p3 pos : Pos} {rest : List PySem.Expr} {Q : List PV -> Store -> Prop}
  (h : ∀ t, Es c env rest pos σ (fun ps σ₂ => Q (.tup [.str x, .tstr y t] :: ps) σ₂)) : Es c env (.Tuple [.Constant (.str x) k1 p1, .Constant (.str y) k2 p2] k3 p3 :: rest) pos σ Q :=
 Es.cons (E.tuple (Es.strC (Es.cons (E.tstr B fun t => Es.nil ⟨le_sz (by show 2 <= 16777216; decide), h t⟩) rfl))) rfl
noncomputable def fd180 : FuncData := getFd (a := 180) rfl
noncomputable def bd180 : List Stmt := getBody (fd := fd180) rfl
theorem at180 (P : Params) : FnAt P 180 fd180 := by kernel_rfl
theorem ok180 : FnOk fd180 ["text"] ["name", "sign"] bd180 := ⟨rfl, rfl, rfl, rfl, by decide +kernel, by decide, by decide +kernel⟩
theorem cd180 (P : Params) : codeIn (KK P) fd180.code fd180.qualname = true := by kernel_rfl
theorem Str_eta (x : Str) : x = Sl x.cps.toList := by cases x; simp [Sl]
theorem replace_Sl {l : List Nat} {y z : Str} {p r : List Nat} (hp : y.cps.toList = p) (hr : z.cps.toList = r) (h1 : 1 <= y.length) : Txt.replace (Sl l) y z = Sl (rp p r 0 l) := by
 rw [Str_eta (Txt.replace _ _ _), replace_rp _ _ _ h1, hp, hr]
 rfl
noncomputable def stC : List Nat := [60, 62, 34, 9, 10, 13]
noncomputable def stage (l : List Nat) (i : Nat) : List Nat := (stC.take i).foldl (fun l c => rp (ent c) [c] 0 l) l
theorem ent_ne_nil (ch : Nat) : ent ch ≠ [] := ent_all (P := fun l => l ≠ []) (by decide +kernel) ch
theorem stf_len (cs : List Nat) : ∀ l : List Nat, (cs.foldl (fun l c => rp (ent c) [c] 0 l) l).length <= l.length := by
 induction cs with
 | nil => intro l; exact Nat.le_refl _
 | cons a t ih => intro l; exact Nat.le_trans (ih _) (rp_len (by simp) _ _ (ent_ne_nil _))
theorem stage_len (l : List Nat) (i : Nat) : (stage l i).length <= l.length := stf_len _ _
theorem stage_succ (l : List Nat) {i ch : Nat} (h : stC[i]? = some ch) : stage l (i + 1) = rp (ent ch) [ch] 0 (stage l i) := by
 unfold stage
 rw [List.take_add_one, h, List.foldl_append]
 rfl
theorem Ca180 (B : Base c) (hd : c.d < recursionLimit) {l : List Nat} (hz : l.length <= 1000000) (h : Q (.str (Sl (plainL l))) σ) : Ca c (.ref 180) [.str (Sl l)] σ Q := by
 refine Ca.fm (pvs' := [.str (Sl l)]) (ns := ["text", "name", "sign"]) (vs := [some (.str (Sl l)), Option.none, Option.none]) B (at180 _) ok180 (cd180 _) hd
  (fun s V vals _ hv => ⟨vals, by obtain ⟨v, _, rfl, _, hv⟩ := hv.inv_cons; rw [hv.inv_nil]; exact BindsTo.of_eq rfl, hv⟩) rfl rfl rfl fun L F B' => ?_
 refine Xs.cons ?_
 show X _ _ (.For (.Tuple [.Name "name" _, .Name "sign" _] _ _) (.List [.Tuple [.Constant (.str "lt") _ _, .Constant (.str "<") _ _] _ _, .Tuple [.Constant (.str "gt") _ _, .Constant (.str ">") _ _] _ _, .Tuple [.Constant (.str "quot") _ _, .Constant (.str "\"") _ _] _ _, .Tuple [.Constant (.str "#x9") _ _, .Constant (.str "\t") _ _] _ _, .Tuple [.Constant (.str "#xA") _ _, .Constant (.str "\n") _ _] _ _, .Tuple [.Constant (.str "#xD") _ _, .Constant (.str "\r") _ _] _ _] _) _ _ _) _ _ _
 refine @X.for _ _ _ _ _ _ _ _ _ ?_ (.inr ⟨_, _, _, rfl⟩) (by intro _; kernel_rfl)
 refine E.lst ?_
 refine (Es.pairC B' (fun t0 => ?_) : Es _ _ _ _ _ _)
 refine (Es.pairC B' (fun t1 => ?_) : Es _ _ _ _ _ _)
 refine (Es.pairC B' (fun t2 => ?_) : Es _ _ _ _ _ _)
 refine (Es.pairC B' (fun t3 => ?_) : Es _ _ _ _ _ _)
 refine (Es.pairC B' (fun t4 => ?_) : Es _ _ _ _ _ _)
 refine (Es.pairC B' (fun t5 => ?_) : Es _ _ _ _ _ _)
 refine Es.nil ⟨le_sz (by show 6 <= 16777216; decide), ?_⟩
 refine ⟨_, _, fun i σ' => ∃ v1 v2, σ' = (L, .loc ["text", "name", "sign"] [some (.str (Sl (stage l i))), v1, v2]) :: σ, Itb.lst, ⟨none, none, rfl⟩, fun _ _ _ => trivial, ?_, ?_⟩
 ·rintro Fr β hb i q σ' hq ⟨v1, v2, rfl⟩
  have hzs := stage_len l i
  obtain ⟨nm, sg, u, ch, hy, hs, hne, hnm, hi, rfl⟩ : ∃ (nm sg : Str) (u ch : Nat), ((("&" : Str) ++ nm) ++ (";" : Str)).cps.toList = ent ch /\ sg.cps.toList = [ch] /\ (((("&" : Str) ++ nm) ++ (";" : Str)) == sg) = false /\ nm.length <= 10 /\ stC[i]? = some ch /\ q = .tup [.str nm, .tstr sg u] := by
   rcases i with _ | _ | _ | _ | _ | _ | i
   ·exact ⟨"lt", "<", t0, 60, by decide +kernel, by decide +kernel, by decide +kernel, by decide +kernel, rfl, (Option.some.inj hq).symm⟩
   ·exact ⟨"gt", ">", t1, 62, by decide +kernel, by decide +kernel, by decide +kernel, by decide +kernel, rfl, (Option.some.inj hq).symm⟩
   ·exact ⟨"quot", "\"", t2, 34, by decide +kernel, by decide +kernel, by decide +kernel, by decide +kernel, rfl, (Option.some.inj hq).symm⟩
   ·exact ⟨"#x9", "\t", t3, 9, by decide +kernel, by decide +kernel, by decide +kernel, by decide +kernel, rfl, (Option.some.inj hq).symm⟩
   ·exact ⟨"#xA", "\n", t4, 10, by decide +kernel, by decide +kernel, by decide +kernel, by decide +kernel, rfl, (Option.some.inj hq).symm⟩
   ·exact ⟨"#xD", "\r", t5, 13, by decide +kernel, by decide +kernel, by decide +kernel, by decide +kernel, rfl, (Option.some.inj hq).symm⟩
   ·cases hq
  refine Asg.tuple (Asg.name F.lo F.loc (by trivial) (Asg.name F.lo F.loc (by trivial) ?_)) rfl
  have hl1 : (("&" : Str) ++ nm).length = 1 + nm.length := str_len_append _ _
  have hl2 : ((("&" : Str) ++ nm) ++ (";" : Str)).length = 1 + nm.length + 1 := by rw [str_len_append, hl1]; rfl
  have hls : sg.length = 1 := by
   have : sg.length = sg.cps.toList.length := by simp [Str.length]
   rw [this, hs]; rfl
  refine Xs.cons (X.nm F (E.rep (B'.ext hb) (E.n F ⟨_, _, _, rfl, Fresh.add (x := ("&" : Str) ++ nm) (y := (";" : Str)) (B'.ext hb) (E.binop (E.str (E.n F (Bin.add_str (by rw [sizeLine_eq]; show 1 + nm.length <= _; lia) ⟨rfl, rfl⟩)))) (E.str ⟨rfl, rfl⟩)
   (by rw [hl1]; simp) (by decide) (by rw [sizeLine_eq, hl1]; show 1 + nm.length + 1 <= _; lia), .inr ⟨u, OldS.lk F.lo (by rw [F.loc]; exact .head _) (by trivial)⟩, hne, ?_, ?_⟩)))
  ·rw [hls, sizeLine_eq]; show (stage l i).length + ((stage l i).length + 1) * 1 <= _; lia
  ·refine ⟨_, _, _, rfl, by trivial, ?_⟩
   rw [replace_Sl hy hs (by rw [hl2]; lia), <- stage_succ l hi]
   exact Xs.nil ⟨_, _, rfl⟩
 ·rintro σ' ⟨v1, v2, rfl⟩
  have hzs := stage_len l 6
  refine Xs.cons (X.return (E.rep B' (E.n F ⟨_, _, _, rfl, Fresh.const B', .inl (Fresh.const B'), by decide +kernel, ?_, ?_⟩)))
  ·rw [sizeLine_eq]; show (stage l 6).length + ((stage l 6).length + 1) * 1 <= _; lia
  ·refine ⟨σ, .cons _ (.refl _), ?_⟩
   rw [replace_Sl (p := ent 38) (r := [38]) (by decide +kernel) (by decide +kernel) (by decide +kernel)]
   exact h
theorem It.lstLast {l : List PV} {p : PV} (h : Q p σ) : It c (.lst (l ++ [p])) (.int (-1)) σ Q := by
 refine ⟨"list", _, list_getitem_lookup, fun s v R hv => ?_, fun V va vb ra rb A s hA R hV => ?_⟩
 ·obtain ⟨a, vs, n, rfl, e, rv⟩ := hv.inv_lst
  have e' := (vw_some.mp e).2.2
  exact ⟨⟨_, e', rfl⟩, fun b q => by cases q; exact ⟨_, e', rfl⟩⟩
 ·obtain ⟨a, vs, n, rfl, e, rv⟩ := (ra.mono hV).inv_lst
  obtain ⟨t, rfl⟩ := rb.inv_int
  obtain ⟨v, ev, r⟩ := rv.get (i := l.length) (p := p) (by simp)
  have hlen : vs.length = l.length + 1 := by rw [rv.length]; simp
  refine kde_getNeg (seqObj_isList (vw_some.mp e).2.2) (by decide) (by decide) (j := l.length) ?_ ev (ret_here R r h)
  rw [hlen]
  have := seqIndex?_neg_one (n := l.length + 1) (by lia)
  simpa using this
theorem It.mono {o i : PV} {Q' : PV -> Store -> Prop} (h : It c o i σ Q) (k : ∀ p σ', Q p σ' -> Q' p σ') : It c o i σ Q' := by
 obtain ⟨T, id, a, b, d⟩ := h
 exact ⟨T, id, a, b, fun V va vb ra rb => (d V va vb ra rb).mono fun v V' σ' _ ⟨p, r, q⟩ => ⟨p, r, k _ _ q⟩⟩
theorem Ca.split1 {x y : Str} (hy : (y.length == 0) = false) (hz : x.length + 2 <= sizeLine) (h : Q (.lst ((Txt.split x y).map .str)) σ) : Ca c (.builtin "str.split") [.str x, .str y] σ Q := fun V vs hv A s hA R hV => by
 obtain ⟨v, _, rfl, r1, hv1⟩ := hv.inv_cons
 obtain ⟨v2, _, rfl, r2, hv2⟩ := hv1.inv_cons
 have e0 := hv2.inv_nil
 subst e0
 obtain ⟨t, rfl⟩ := r1.inv_str
 obtain ⟨u, rfl⟩ := r2.inv_str
 have fin : ∀ (l : List (Str × Tok)) tk, s.toks <= tk -> l.map (·.1) = Txt.split x y -> Ends c σ s (ret Q (.ref s.heap.objs.size)) { s with heap := s.heap.push { cls := .type "list", data := .seq (strValues l).toArray }, toks := tk } := fun l tk ht e => by
  obtain ⟨o1, e₁⟩ := R.push_frz { cls := .type "list", data := .seq (strValues l).toArray }
  have o2 := Out.toks o1.rep tk ht
  refine ⟨σ, o1.trans o2, .lst ((Txt.split x y).map .str), .lst (o2.view.mem _ _ e₁) ?_, h⟩
  rw [<- e, List.map_map]
  exact VRs.strs l
 cases h1 : (decide (x.length < y.length) || decide (Builtin.Str.strKind x < Builtin.Str.strKind y))
 ·cases hf : (Builtin.Str.occurrences x y 0 x.length (x.length + 1)).isEmpty
  ·have hn : (Builtin.Str.partsBetween x (Builtin.Str.occurrences x y 0 x.length (x.length + 1)) y.length).length <= sizeLine := by
    have e1 := StrLaws.occ_length_le_len x y 0 x.length (x.length + 1)
    rw [length_partsBetween]; lia
   refine call_meets F.slot_str_split (typeIs_str _ _ _) F.entry_str_split (F.args_str_split_2 _ _) (meets_str_split_sep x y t u h1 hy hf (by lia) hn) ?_
   show wants _ _ _ { s with toks := _, heap := s.heap.push { cls := .type "list", data := .seq (strsFrom s.toks (Builtin.Str.partsBetween x (Builtin.Str.occurrences x y 0 x.length (x.length + 1)) y.length)).toArray } }
   rw [strsFrom_eq]
   exact fin (numbered s.toks _) _ (by lia) ((numbered_texts _ _).trans ((if_neg (ne_true_of_eq_false h1)).trans (if_neg (ne_true_of_eq_false hf))).symm)
  ·exact call_meets F.slot_str_split (typeIs_str _ _ _) F.entry_str_split (F.args_str_split_2 _ _) (meets_str_split_not_found x y t u h1 hy hf)
    (fin [(x, t)] s.toks (Nat.le_refl _) ((if_neg (ne_true_of_eq_false h1)).trans (if_pos hf)).symm)
 ·exact call_meets F.slot_str_split (typeIs_str _ _ _) F.entry_str_split (F.args_str_split_2 _ _) (meets_str_split_cannot_occur x y t u h1)
   (fin [(x, t)] s.toks (Nat.le_refl _) (if_pos h1).symm)
noncomputable def fd187 : FuncData := getFd (a := 187) rfl
noncomputable def bd187 : List Stmt := getBody (fd := fd187) rfl
theorem at187 (P : Params) : FnAt P 187 fd187 := by kernel_rfl
theorem ok187 : FnOk fd187 ["name", "level", "bare"] ["uri"] bd187 := ⟨rfl, rfl, rfl, rfl, by decide +kernel, by decide, by decide +kernel⟩
theorem cd187 (P : Params) : codeIn (KK P) fd187.code fd187.qualname = true := by kernel_rfl
theorem wn_split (p : Px) (b : Bool) : Txt.split (wn p b) ":" = if p = 0 then [lcS b] else [pS p, lcS b] := by revert p b; decide +kernel
theorem wn_colon (p : Px) (b : Bool) : (!(Builtin.Str.occurrences (wn p b) ":" 0 (wn p b).length 1).isEmpty) = !decide (p = 0) := by revert p b; decide +kernel
theorem uS_ne (u : U) : (uS u != ("" : Str)) = !decide (u = 0) := by revert u; decide +kernel
theorem Ca187 (B : Base c) (hd : c.d < recursionLimit) {p : Px} {b : Bool} {u v : U} {la : Addr} {l : List (Str × PV)} (hl : (la, Cell.dict l) ∈ σ) (hk : p ≠ 0 -> l.lookup (pS p) = some (.str (uS u))) (hv : p = 0 -> u = v)
  (h : Q (.str (nmS (u, b))) σ) : Ca c (.ref 187) [.str (wn p b), .raw (.ref la), .str (uS v)] σ Q := by
 refine Ca.fm (pvs' := [.str (wn p b), .raw (.ref la), .str (uS v)]) (ns := ["name", "level", "bare", "uri"]) (vs := [some (.str (wn p b)), some (.raw (.ref la)), some (.str (uS v)), Option.none]) B (at187 _) ok187 (cd187 _) hd
  (fun s V vals _ hv => ⟨vals, by obtain ⟨v, _, rfl, _, hv⟩ := hv.inv_cons; obtain ⟨v, _, rfl, _, hv⟩ := hv.inv_cons; obtain ⟨v, _, rfl, _, hv⟩ := hv.inv_cons; rw [hv.inv_nil]; exact BindsTo.of_eq rfl, hv⟩) rfl rfl rfl fun L F B' => ?_
 have hw := wn_len p b
 have hsp : ∀ (p1 p2 p3 p4 : Pos) (k : Nat) (vs : List (Option PV)) (τ : Store) (Q' : PV -> Store -> Prop), Lk ["name", "level", "bare", "uri"] vs "name" (.str (wn p b)) -> Q' (.lst ((if p = 0 then [lcS b] else [pS p, lcS b]).map .str)) ((L, .loc ["name", "level", "bare", "uri"] vs) :: τ) ->
   (∃ pl, eval (.Call (.Attribute (.Name "name" p1) "split" p2) [.Constant (.str ":") k p3] [] p4) (callEnv fd187 L 187) = (do
    let ov <- eval (.Name "name" p1) (callEnv fd187 L 187)
    standAt p2.atName
    let (f, first) <- holding [ov] (getMethod ov "split" pl)
    callWith p4 f first (backTo p4 (starEach [.Constant (.str ":") k p3] (callEnv fd187 L 187))) [])) ->
   E { c with d := c.d + 1, u := c.u + 3 } (callEnv fd187 L 187) (.Call (.Attribute (.Name "name" p1) "split" p2) [.Constant (.str ":") k p3] [] p4) ((L, .loc ["name", "level", "bare", "uri"] vs) :: τ) Q' := fun p1 p2 p3 p4 k vs τ Q' hk q ⟨pl, he⟩ =>
  E.meth (pl := pl) (E.nm F hk (Gm.split (Es.strC (Es.nil ⟨.builtin, Ca.split1 (by decide +kernel) (by rw [sizeLine_eq]; lia) (by rw [wn_split]; exact q)⟩)))) he
 have tail : ∀ σ1, σ1 = (L, Cell.loc ["name", "level", "bare", "uri"] [some (.str (wn p b)), some (.raw (.ref la)), some (.str (uS v)), some (.str (uS u))]) :: σ ->
   Xs { c with d := c.d + 1, u := c.u + 3 } (callEnv fd187 L 187) (bd187.drop 1) σ1 (fun σ' => fin Q .none σ') (fin Q) := by
  rintro _ rfl
  have h2 : It { c with d := c.d + 1, u := c.u + 3 } (.lst ((if p = 0 then [lcS b] else [pS p, lcS b]).map .str)) (.int (-1)) ((L, .loc ["name", "level", "bare", "uri"] [some (.str (wn p b)), some (.raw (.ref la)), some (.str (uS v)), some (.str (uS u))]) :: σ) (fun r σ₂ => r = .str (lcS b) /\ σ₂ = (L, Cell.loc ["name", "level", "bare", "uri"] [some (.str (wn p b)), some (.raw (.ref la)), some (.str (uS v)), some (.str (uS u))]) :: σ) := by
   by_cases hp : p = 0
   ·rw [if_pos hp]
    exact It.lstLast (l := []) ⟨rfl, rfl⟩
   ·rw [if_neg hp]
    exact It.lstLast (l := [.str (pS p)]) ⟨rfl, rfl⟩
  refine Xs.cons (X.return (E.ifexp (T.cmp (E.n F (E.str (Cmp.ne_str (Tr.bool ?_)))))))
  rw [uS_ne]
  by_cases hu : u = 0
  ·rw [if_neg (by simp [hu])]
   refine E.sub (hsp _ _ _ _ _ _ _ _ (by trivial) (E.neg ?_) ⟨_, rfl⟩)
   refine h2.mono fun r σ₂ hq3 => ?_
   obtain ⟨e1, e2⟩ := hq3
   subst e1 e2
   refine ⟨σ, .cons _ (.refl _), ?_⟩
   rw [<- nm_0 (u, b) hu]; exact h
  ·rw [if_pos (by simp [hu])]
   have hul := uS_len u
   have hll := lc_len b
   refine E.binop (E.binop (E.binop (E.str (E.n F (Bin.add_str ?_ (E.str (Bin.add_str ?_ (E.sub (hsp _ _ _ _ _ _ _ _ (by trivial) (E.neg ?_) ⟨_, rfl⟩)))))))))
   ·rw [sizeLine_eq]; show 1 + (uS u).length <= _; lia
   ·rw [sizeLine_eq, str_len_append]; show 1 + (uS u).length + 1 <= _; lia
   ·refine h2.mono fun r σ₂ hq4 => ?_
    obtain ⟨e1, e2⟩ := hq4
    subst e1 e2
    refine Bin.add_str ?_ ⟨σ, .cons _ (.refl _), ?_⟩
    ·rw [sizeLine_eq, str_len_append, str_len_append]; show 1 + (uS u).length + 1 + _ <= _; lia
    ·unfold nmS at h
     rw [if_neg hu] at h
     exact h
 refine Xs.cons (X.nm F (E.ifexp (T.cmp (E.str (E.n F (Cmp.in_str (Tr.bool ?_)))))))
 rw [wn_colon]
 by_cases hp : p = 0
 ·rw [if_neg (by simp [hp])]
  refine E.n F ⟨_, _, _, rfl, by trivial, tail _ ?_⟩
  rw [hv hp]
 ·rw [if_pos (by simp [hp])]
  refine E.sub (E.n F (E.sub (hsp _ _ _ _ _ _ _ _ (by trivial) (E.int ?_) ⟨_, rfl⟩)))
  rw [if_neg hp]
  exact It.lst (by decide) (by decide) (p := .str (pS p)) rfl (It.dict (.tail _ hl) (hk hp) ⟨_, _, _, rfl, by trivial, tail _ rfl⟩)
theorem len_Sl (l : List Nat) : (Sl l).length = l.length := by simp [Sl, Str.length]
theorem cps_Sl (l : List Nat) : (Sl l).cps.toList = l := by simp [Sl]
theorem occ_at {A u p' rest : List Nat} {ch : Nat} {y : Str} (hy : y.cps.toList = ch :: p') (hu : ch ∉ u) :
  ∃ r, Builtin.Str.occurrences (Sl (A ++ (u ++ ((ch :: p') ++ rest)))) y A.length (Sl (A ++ (u ++ ((ch :: p') ++ rest)))).length 1 = (A.length + u.length) :: r := by
 have hhit : StrLaws.At (Sl (A ++ (u ++ ((ch :: p') ++ rest)))) y (Sl (A ++ (u ++ ((ch :: p') ++ rest)))).length (A.length + u.length) := by
  refine at_of _ _ _ (by rw [len_Sl]; simp) ?_
  rw [cps_Sl, hy, List.drop_append, List.drop_of_length_le (Nat.le_add_right _ _), List.nil_append]
  have : A.length + u.length - A.length = u.length := Nat.add_sub_cancel_left ..
  rw [this, List.drop_left]
  exact List.prefix_append _ _
 have hmiss : ∀ k, A.length <= k -> k < A.length + u.length -> ¬ StrLaws.At (Sl (A ++ (u ++ ((ch :: p') ++ rest)))) y (Sl (A ++ (u ++ ((ch :: p') ++ rest)))).length k := fun k h1 h2 h => by
  have := ((at_iff _ _ _).mp h).2
  rw [cps_Sl, hy, List.drop_append, List.drop_of_length_le h1, List.nil_append] at this
  have h0 := List.IsPrefix.getElem (i := 0) this (by simp)
  rw [List.getElem_drop] at h0
  have hk : (k - A.length) + 0 < u.length := Nat.sub_lt_left_of_lt_add h1 h2
  rw [List.getElem_append_left hk] at h0
  exact hu (by simp at h0; rw [h0]; exact List.getElem_mem _)
 rcases StrLaws.occ_head_from (Sl (A ++ (u ++ ((ch :: p') ++ rest)))) y A.length 1 (Nat.le_refl _) with ⟨_, hn⟩ | ⟨i, r, e, h1, h2, h3⟩
 ·exact absurd hhit (hn _ (Nat.le_add_right _ _))
 ·refine ⟨r, ?_⟩
  rw [e]
  rcases Nat.lt_trichotomy i (A.length + u.length) with h | h | h
  ·exact absurd h2 (hmiss i h1 h)
  ·rw [h]
  ·exact absurd hhit (h3 _ (Nat.le_add_right _ _) h)
theorem gives_str_index_from (x y : Str) (i : Int) (t u v : Tok) (k : Nat) (rest : List Nat) (h : Builtin.Str.occurrences x y (fromIndex x.length i) x.length 1 = k :: rest) : Gives (Builtin.«str.index» ⟨[.str x t, .str y u, .int i v], []⟩) (.int k) := by
 show Gives (match Builtin.Str.occurrences x y (fromIndex x.length i) (min x.length x.length) 1 with | k :: _ => retInt k | [] => (do rule "str.index.not-found"; raiseError "ValueError" "substring not found")) _
 rw [Nat.min_self, h]
 exact .of_eq rfl
theorem Gm.index {x : Str} {pl : Sem Bool} {K : Value -> List PV -> Store -> Prop} (h : K (.builtin "str.index") [.str x] σ) : Gm c (.str x) "index" pl σ K := Gm.builtin HasT.str F.plainAttrs_str F.slot_str_index F.type_str_index h
theorem Ca.index {A u p' rest : List Nat} {ch : Nat} {y : Str} {k : Int} (hy : y.cps.toList = ch :: p') (hu : ch ∉ u) (hk : k = (A.length : Int)) (h : Q (.int ((A.length + u.length : Nat) : Int)) σ) :
  Ca c (.builtin "str.index") [.str (Sl (A ++ (u ++ ((ch :: p') ++ rest)))), .str y, .int k] σ Q := fun V vs hv A' s hA R hV => by
 obtain ⟨v, _, rfl, r1, hv1⟩ := hv.inv_cons
 obtain ⟨v2, _, rfl, r2, hv2⟩ := hv1.inv_cons
 obtain ⟨v3, _, rfl, r3, hv3⟩ := hv2.inv_cons
 have e0 := hv3.inv_nil
 subst e0
 obtain ⟨t, rfl⟩ := r1.inv_str
 obtain ⟨t2, rfl⟩ := r2.inv_str
 obtain ⟨t3, rfl⟩ := r3.inv_int
 obtain ⟨r, e⟩ := occ_at (A := A) (rest := rest) hy hu
 have hf : fromIndex (Sl (A ++ (u ++ ((ch :: p') ++ rest)))).length k = A.length := by
  unfold fromIndex
  rw [hk, if_neg (Int.not_lt.mpr (Int.natCast_nonneg _)), Int.max_eq_right (Int.natCast_nonneg _)]
  rfl
 exact call_gives F.slot_str_index (typeIs_str _ _ _) F.entry_str_index (F.args_str_index_3 _ _ _) (gives_str_index_from _ _ _ _ _ _ _ r (by rw [hf]; exact e)) (made_post R .int h)
noncomputable def IsRg (a b : Int) (o : Obj) : Prop := ∃ t u v, o = { cls := .type "range", dict := none, data := .fields #[.int a t, .int b u, .int 1 v], slots := #[] }
noncomputable def rgL (a b : Int) : List PV := (List.range (b - a).toNat).map fun i => .int (a + (i : Nat))
noncomputable def RgIt (a : Int) (n : Nat) (i : Nat) (o : Obj) : Prop := o = { cls := .type "range_iterator", dict := none, data := .fields #[rawInt (a + (i : Nat)), rawInt ((n : Int) - (i : Nat)), rawInt 1], slots := #[] }
theorem lets_range {c : Cx} {it : Addr} {a : Int} {n i : Nat} {A : Around} {s : Shared} {σ : Store} {v : Value} {es : List PySem.Expr} {k : Nat} {pos : Pos} {Q : Unit -> Shared -> Prop} (e : s.heap.get? it = some { cls := .type "range_iterator", dict := none, data := .fields #[rawInt (a + (i : Nat)), rawInt ((n : Int) - (i : Nat)), rawInt 1], slots := #[] }) (q : Q () s) :
  wpAny c.M A (letOwnedTupleGo (.Tuple es k pos) (.ref it) v) Q (fun _ _ => False) s := by
 cases v with
 | ref T =>
  unfold letOwnedTupleGo
  refine wb (wpAny_load e ?_)
  dsimp only
  rw [if_neg (by
   intro h
   rw [Bool.and_eq_true] at h
   exact absurd h.1 (by decide))]
  exact wq q
 | _ => exact wq q
theorem Iters.range {it : Addr} {a : Int} {n : Nat} : Iters c it ((List.range n).map fun i => .int (a + (i : Nat))) (RgIt a n) (fun _ => True) where
 item := fun A s σ i p hA R _ hp => by
  obtain ⟨o, e, rfl⟩ := R.cells (it, .that (RgIt a n i)) (memR _ (.head _))
  have hi : i < n := by
   have := (List.getElem?_eq_some_iff.mp hp).1
   simpa using this
  have hp' : p = .int (a + (i : Nat)) := by
   rw [List.getElem?_map, List.getElem?_range hi] at hp
   simpa using hp.symm
  subst hp'
  refine wpAny_pyNext_range_item e (by lia) fun h' hi' hs => ?_
  have out : Out c (σ ++ [(it, .that (RgIt a n i))]) s (σ ++ [(it, .that (RgIt a n (i + 1)))]) { s with heap := h', toks := s.toks + 1 } := R.upd (x' := .that (RgIt a n (i + 1))) Up.last hs hi' (by
   show _ = _
   have e1 : a + (i : Int) + 1 = a + ((i + 1 : Nat) : Int) := by push_cast; lia
   have e2 : (n : Int) - (i : Int) - 1 = (n : Int) - ((i + 1 : Nat) : Int) := by push_cast; lia
   rw [e1, e2]) _ (Nat.le_succ _)
  exact ⟨_, rfl, out, .int _ _⟩
 stop := fun A s σ hA R _ => by
  obtain ⟨o, e, rfl⟩ := R.cells (it, .that (RgIt a n _)) (memR _ (.head _))
  have hl : ((List.range n).map fun i => PV.int (a + (i : Nat))).length = n := by simp
  rw [hl] at e
  refine wpAny_pyNext_range_end hA.handled e (by lia) fun h' hs => ⟨rfl, ?_⟩
  exact R.grow (τ := [_]) (fun b o hb eo => hs b o (by simpa [addrs] using hb) eo) (Nat.le_refl _)
 again := fun A s σ i Q hA R q => by
  obtain ⟨o, e, rfl⟩ := R.cells (it, .that (RgIt a n i)) (memR _ (.head _))
  exact wpAny_pyIter_rangeiter e q
 lets := fun A s σ i v es k pos Q hA R q => by
  obtain ⟨o, e, rfl⟩ := R.cells (it, .that (RgIt a n i)) (memR _ (.head _))
  exact lets_range (σ := σ) e q
theorem Itb.range {r : Addr} {a b : Int} (h : (r, Cell.that (IsRg a b)) ∈ σ) (ha : -(2 ^ 62) <= a) (ha' : a < 2 ^ 62) (hb : -(2 ^ 62) <= b) (hb' : b < 2 ^ 62) : Itb c (.raw (.ref r)) σ (rgL a b) (fun _ => True) := fun A s v hA R hv => by
 have := hv.inv_raw
 subst this
 obtain ⟨o, e, t, u, w, rfl⟩ := R.cells _ h
 refine wpAny_pyIter_range e (small_one ha ha' hb hb') ?_
 have hsz : Builtin.Range.rangeSize a b 1 = ((b - a).toNat : Int) := by
  rw [rangeSize_one]
  split <;> lia
 have out := (R.push_cell { cls := .type "range_iterator", data := .fields #[rawInt a, rawInt (Builtin.Range.rangeSize a b 1), rawInt 1] } (.that (RgIt a (b - a).toNat 0)) (by
  show _ = _
  rw [hsz]
  simp)).perm_r (σ₂ := σ ++ [(s.heap.objs.size, .that (RgIt a (b - a).toNat 0))]) (by
  have := List.perm_append_comm (l₁ := [(s.heap.objs.size, Cell.that (RgIt a (b - a).toNat 0))]) (l₂ := σ)
  exact this.symm)
 exact ⟨s.heap.objs.size, RgIt a (b - a).toNat, rfl, out, .range⟩
theorem rg_post {a b : Int} {t u v : Tok} {tk : Nat} (R : Rep c σ s) (ht : s.toks <= tk) (h : ∀ r, Q (.raw (.ref r)) (σ ++ [(r, .that (IsRg a b))])) :
  Ends c σ s (ret Q (.ref s.heap.objs.size)) { s with heap := s.heap.push { cls := .type "range", data := .fields #[.int a t, .int b u, .int 1 v] }, toks := tk } := by
 have out := (R.push_cell { cls := .type "range", data := .fields #[.int a t, .int b u, .int 1 v] } (.that (IsRg a b)) ⟨_, _, _, rfl⟩).perm_r (σ₂ := σ ++ [(s.heap.objs.size, .that (IsRg a b))]) (by
  have := List.perm_append_comm (l₁ := [(s.heap.objs.size, Cell.that (IsRg a b))]) (l₂ := σ)
  exact this.symm)
 exact ⟨_, out.trans (.toks out.rep tk ht), _, .raw _, h _⟩
theorem Ca.range1 {n : Int} (h : ∀ r, Q (.raw (.ref r)) (σ ++ [(r, .that (IsRg 0 n))])) : Ca c (.type "range") [.int n] σ Q := fun V vs hv A s hA R hV => by
 obtain ⟨v, _, rfl, r1, hv1⟩ := hv.inv_cons
 have e0 := hv1.inv_nil
 subst e0
 obtain ⟨t, rfl⟩ := r1.inv_int
 exact call_range_1 (rg_post R (by lia) h)
theorem Ca.range2 {a b : Int} (h : ∀ r, Q (.raw (.ref r)) (σ ++ [(r, .that (IsRg a b))])) : Ca c (.type "range") [.int a, .int b] σ Q := fun V vs hv A s hA R hV => by
 obtain ⟨v, _, rfl, r1, hv1⟩ := hv.inv_cons
 obtain ⟨v2, _, rfl, r2, hv2⟩ := hv1.inv_cons
 have e0 := hv2.inv_nil
 subst e0
 obtain ⟨t, rfl⟩ := r1.inv_int
 obtain ⟨t2, rfl⟩ := r2.inv_int
 exact call_range_2 (rg_post R (by lia) h)
theorem ints_of {V : View} : ∀ {ns : List Int} {vs : List Value}, VRs V (ns.map .int) vs -> IntsAre vs ns
 | [], _, h => by rw [h.inv_nil]; exact .nil
 | n :: ns, _, h => by
  obtain ⟨v, vs, rfl, r, h2⟩ := h.inv_cons
  obtain ⟨t, rfl⟩ := r.inv_int
  exact .cons n t (ints_of h2)
theorem Ca.min {p : PV} {n : Int} {ns : List Int} (hL : LV c σ p ((n :: ns).map .int)) (hn : ∀ m ∈ ns, n <= m) (h : Q (.int n) σ) : Ca c (.builtin "min") [p] σ Q := fun V vs hv A s hA R hV => by
 obtain ⟨v, _, rfl, r, hv1⟩ := hv.inv_cons
 have e0 := hv1.inv_nil
 subst e0
 obtain ⟨a, ws, m, rfl, e, rv⟩ := hL s v R (r.mono hV)
 have hi := ints_of rv
 obtain ⟨xs, e1⟩ := hi.allInts.items
 have hns : (n :: ns) = xs.toList.map (·.1) := by
  rw [<- hi.numsOf, <- nums_intItems, <- e1]
 have hlen : xs.size = ns.length + 1 := by
  have := congrArg List.length hns
  simpa using this.symm
 have hl := seqObj_isList e
 rw [e1] at hl
 refine tkG (min_intList hA.handled hl (by lia) fun v h' tk hv hk ht => ?_)
 obtain ⟨t, rfl⟩ := intItems_at hv
 have : numAt xs (argBest (fun i j => decide (numAt xs i < numAt xs j)) (xs.size - 1)) = n := by
  obtain ⟨h1, h2⟩ := argBest_lt (numAt xs) (xs.size - 1)
  have h3 := h2 0 (Nat.zero_le _)
  have h4 : numAt xs 0 = n := by rw [numAt_eq, <- hns]; rfl
  have h5 : numAt xs (argBest (fun i j => decide (numAt xs i < numAt xs j)) (xs.size - 1)) ∈ n :: ns := by
   rw [numAt_eq, <- hns]
   exact _root_.PySem.getD_mem (by rw [List.length_cons, <- hlen]; exact Nat.lt_of_le_of_lt h1 (Nat.sub_lt (hlen ▸ Nat.succ_pos _) Nat.one_pos))
  have h6 : n <= numAt xs (argBest (fun i j => decide (numAt xs i < numAt xs j)) (xs.size - 1)) := by
   rcases List.mem_cons.mp h5 with h | h
   ·exact Int.le_of_eq h.symm
   ·exact hn _ h
  exact Int.le_antisymm (h4 ▸ h3) h6
 exact ⟨σ, R.more hk ht, .int n, this ▸ .int _ _, h⟩
theorem Ca.sum {p : PV} {ns : List Int} (hL : LV c σ p (ns.map .int)) (h : Q (.int ns.sum) σ) : Ca c (.builtin "sum") [p] σ Q := fun V vs hv A s hA R hV => by
 obtain ⟨v, _, rfl, r, hv1⟩ := hv.inv_cons
 have e0 := hv1.inv_nil
 subst e0
 obtain ⟨a, ws, m, rfl, e, rv⟩ := hL s v R (r.mono hV)
 have hi := ints_of rv
 obtain ⟨xs, e1⟩ := hi.allInts.items
 have hns : ns = xs.toList.map (·.1) := by
  rw [<- nums_intItems, <- e1]
  exact (show numsOf ws.toArray.toList = ns from hi.numsOf).symm
 have hl := seqObj_isList e
 rw [e1] at hl
 refine tkG (sum_intListG hA.handled hl fun h' tk t' hk ht => ?_)
 rw [preSum_eq, List.take_of_length_le (by simp), <- hns]
 exact ⟨σ, R.more hk ht, .int _, .int _ _, h⟩
theorem Ca.dictOf {d : Addr} {l : List (Str × PV)} (hm : (d, Cell.dict l) ∈ σ) (hz : l.length <= sizeLine) (h : ∀ a, Q (.raw (.ref a)) ((a, .dict l) :: σ)) : Ca c (.type "dict") [.raw (.ref d)] σ Q := fun V vs hv A s hA R hV => by
 obtain ⟨v, _, rfl, rv, hv'⟩ := hv.inv_cons
 have e0 := hv'.inv_nil
 subst e0
 have := rv.inv_raw
 subst this
 obtain ⟨kvs, hd, hk⟩ := R.dictAt hm
 refine kt_call_dict (knd := PySem.strKind c.prog c.w) (by simpa using R.sysne hm) hd (by rw [hk.length]; exact hz) fun h' hm' hs => ?_
 obtain ⟨o', ho', hd'⟩ := Heap.dictOf_iff.mp hm'
 have kp : ∀ b o, s.heap.get? b = some o -> h'.get? b = some o := fun b o e => by
  rw [hs.2 b (Nat.ne_of_lt (get_lt e))]
  exact Heap.get?_push_of_some _ e
 have out := R.newCell2 (a := s.heap.objs.size) (x := .dict l) (tk := s.toks) kp (Nat.le_refl _) ho' ⟨kvs, hd', hk.mono ?_⟩ (Nat.le_refl _)
 ·exact ⟨_, out, _, .raw _, h _⟩
 ·exact ⟨fun b y e => by
   obtain ⟨e1, e2, e3⟩ := vw_some.mp e
   refine vw_some.mpr ⟨e1, fun q => ?_, kp _ _ e3⟩
   rcases List.mem_cons.mp q with q | q
   ·exact Nat.lt_irrefl _ (q ▸ get_lt e3)
   ·exact e2 q, Nat.le_refl _⟩
end
theorem sl_mid (A u r : List Nat) {i j : Int} (hi : i = (A.length : Int)) (hj : j = ((A.length + u.length : Nat) : Int)) : Txt.slice (Sl (A ++ (u ++ r))) (some i) (some j) = Sl u := by
 subst hi hj
 have h := StrLaws.sliceText_nat (Sl (A ++ (u ++ r))) (a := A.length) (b := A.length + u.length) (Nat.le_add_right _ _) (by rw [len_Sl]; simp)
 show StrLaws.sliceText (Sl (A ++ (u ++ r))) _ _ = _
 rw [h, cps_Sl, List.drop_left]
 have e : A.length + u.length - A.length = u.length := Nat.add_sub_cancel_left ..
 rw [e, List.take_left]
 rfl
theorem sl_at (A r : List Nat) (ch : Nat) : (Sl (A ++ ch :: r)).cps.toList[A.length]? = some ch := by
 rw [cps_Sl]; simp
noncomputable abbrev RL := List (Px × U)
noncomputable def rlD (l : RL) : List (Str × PV) := l.map fun x => (pS x.1, .str (uS x.2))
noncomputable def rlPut (l : RL) (x : Px × U) : RL := if l.any (fun y => y.1 = x.1) then l.map (fun y => if y.1 = x.1 then (y.1, x.2) else y) else l ++ [x]
theorem pS_iff (p q : Px) : (pS p = pS q) ↔ p = q := ⟨pS_inj, fun h => by rw [h]⟩
theorem rlD_put (l : RL) (x : Px × U) : rlD (rlPut l x) = sto (rlD l) (pS x.1) (.str (uS x.2)) := by
 unfold rlPut sto rlD
 have e : (l.map fun x => (pS x.1, PV.str (uS x.2))).any (fun y => decide (y.1 = pS x.1)) = l.any (fun y => decide (y.1 = x.1)) := by
  rw [List.any_map]
  congr 1
  funext y
  simp [pS_iff]
 rw [e]
 split
 ·rw [List.map_map, List.map_map]
  apply List.map_congr_left
  intro y _
  simp only [Function.comp, pS_iff]
  split <;> rfl
 ·rw [List.map_append]; rfl
theorem rlD_lookup (l : RL) (p : Px) : (rlD l).lookup (pS p) = (l.lookup p).map fun u => .str (uS u) := by
 induction l with
 | nil => rfl
 | cons x t ih =>
  unfold rlD at ih ⊢
  rw [List.map_cons, List.lookup_cons, List.lookup_cons, pS_eq]
  by_cases h : p = x.1
  ·subst h; simp
  ·rw [decide_eq_false h, ih]
   have : (p == x.1) = false := by simpa using h
   rw [this]
theorem rlD_len (l : RL) : (rlD l).length = l.length := by simp [rlD]
theorem rlPut_len (l : RL) (x : Px × U) : (rlPut l x).length <= l.length + 1 := by
 unfold rlPut
 split
 ·simp
 ·simp
inductive Pr where
 | ns (p : Px) (u : U)
 | at (p : Px) (b : Bool) (v : Str)
noncomputable def Pr.key : Pr -> Str
 | .ns p _ => xnS p
 | .at p b _ => wn p b
noncomputable def Pr.val : Pr -> Str
 | .ns _ u => uS u
 | .at _ _ v => v
noncomputable def Pr.pv (r : Pr) : Str × Str := (r.key, r.val)
noncomputable def Pr.isAt : Pr -> Bool
 | .ns _ _ => false
 | .at _ _ _ => true
noncomputable def nsPut (l : RL) : Pr -> RL
 | .ns p u => rlPut l (p, u)
 | .at _ _ _ => l
noncomputable def nsAll (l : RL) (rs : List Pr) : RL := rs.foldl nsPut l
theorem nsPut_len (l : RL) (r : Pr) : (nsPut l r).length <= l.length + 1 := by
 cases r with
 | ns p u => exact rlPut_len _ _
 | «at» p b v => exact Nat.le_succ _
theorem nsAll_len : ∀ (rs : List Pr) (l : RL), (nsAll l rs).length <= l.length + rs.length
 | [], l => Nat.le_refl _
 | r :: rs, l => by
  have h1 := nsAll_len rs (nsPut l r)
  have h2 := nsPut_len l r
  show (nsAll (nsPut l r) rs).length <= _
  rw [List.length_cons]
  lia
theorem xn_ns (p : Px) : (Txt.slice (xnS p) Option.none (some 5) == ("xmlns" : Str)) = true := by revert p; decide +kernel
theorem xn_pre (p : Px) : Txt.slice (xnS p) (some 6) Option.none = pS p := by revert p; decide +kernel
theorem wn_ns (p : Px) (b : Bool) : (Txt.slice (wn p b) Option.none (some 5) == ("xmlns" : Str)) = false := by revert p b; decide +kernel
theorem key_ns (r : Pr) : (Txt.slice r.key Option.none (some 5) == ("xmlns" : Str)) = !r.isAt := by
 cases r with
 | ns p u => exact xn_ns p
 | «at» p b v => exact wn_ns p b
theorem key_nns (r : Pr) : (Txt.slice r.key Option.none (some 5) != ("xmlns" : Str)) = r.isAt := by
 unfold bne; rw [key_ns, Bool.not_not]
theorem xn_chars (p : Px) : ((xnS p).cps.toList.all fun d => d != 61 && d != 32 && d != 62 && d != 60 && d != 34) = true := by revert p; decide +kernel
theorem wn_chars (p : Px) (b : Bool) : ((wn p b).cps.toList.all fun d => d != 61 && d != 32 && d != 62 && d != 60 && d != 34 && d != 33 && d != 47 && d != 63) = true := by revert p b; decide +kernel
theorem key_mem (r : Pr) {d : Nat} (h : d ∈ r.key.cps.toList) : d ≠ 61 /\ d ≠ 32 /\ d ≠ 62 /\ d ≠ 60 /\ d ≠ 34 := by
 cases r with
 | ns p u => have := List.all_eq_true.mp (xn_chars p) d h; simpa [and_assoc] using this
 | «at» p b v => have := List.all_eq_true.mp (wn_chars p b) d h; simp [and_assoc] at this; exact ⟨this.1, this.2.1, this.2.2.1, this.2.2.2.1, this.2.2.2.2.1⟩
theorem wn_mem {p : Px} {b : Bool} {d : Nat} (h : d ∈ (wn p b).cps.toList) : d ≠ 61 /\ d ≠ 32 /\ d ≠ 62 /\ d ≠ 60 /\ d ≠ 34 /\ d ≠ 33 /\ d ≠ 47 /\ d ≠ 63 := by
 have := List.all_eq_true.mp (wn_chars p b) d h
 simpa [and_assoc] using this
theorem key_len (r : Pr) : r.key.length <= 20 := by
 cases r with
 | ns p u => exact (show ∀ p, (xnS p).length <= 20 by decide +kernel) p
 | «at» p b v => have := wn_len p b; exact Nat.le_trans this (by lia)
theorem wn_ne (p : Px) (b : Bool) : ∃ d t, (wn p b).cps.toList = d :: t := by
 have : ∀ p b, (wn p b).cps.toList ≠ [] := by decide +kernel
 exact List.exists_cons_of_ne_nil (this p b)
noncomputable def allPB : List (Px × Bool) := (List.finRange 20).flatMap fun p => [(p, false), (p, true)]
noncomputable def res (l : RL) (p : Px) : U := if p = 0 then 0 else (l.lookup p).getD 0
noncomputable def fullS (l : RL) (k : Str) : Str := match allPB.find? (fun x => wn x.1 x.2 == k) with
 | some (p, b) => nmS (res l p, b)
 | none => Str.empty
theorem find_wn : ∀ (p : Px) (b : Bool), allPB.find? (fun x => wn x.1 x.2 == wn p b) = some (p, b) := by decide +kernel
theorem fullS_wn (l : RL) (p : Px) (b : Bool) : fullS l (wn p b) = nmS (res l p, b) := by unfold fullS; rw [find_wn]
noncomputable def Pr.full (l : RL) : Pr -> Str × Str
 | .ns _ _ => (Str.empty, Str.empty)
 | .at p b v => (nmS (res l p, b), v)
noncomputable def atts (l : RL) (rs : List Pr) : List (Str × Str) := (rs.filter Pr.isAt).map (Pr.full l)
noncomputable def prT : PV -> Bool
 | .tup [.str k, .str _] => Txt.slice k Option.none (some 5) != ("xmlns" : Str)
 | _ => false
noncomputable def prF (l : RL) : PV -> PV
 | .tup [.str k, .str v] => .tup [.str (fullS l k), .str v]
 | p => p
theorem atts_pv (l : RL) (rs : List Pr) : ((rs.map fun r => pp r.pv).filter prT).map (prF l) = (atts l rs).map pp := by
 unfold atts
 induction rs with
 | nil => rfl
 | cons r t ih =>
  rw [List.map_cons, List.filter_cons, List.filter_cons]
  have e : prT (pp r.pv) = r.isAt := key_nns r
  rw [e]
  cases r with
  | ns p u => exact ih
  | «at» p b v =>
   show prF l (pp (Pr.at p b v).pv) :: _ = pp ((Pr.at p b v).full l) :: _
   rw [ih]
   congr 1
   show PV.tup [.str (fullS l (wn p b)), .str v] = _
   rw [fullS_wn]; rfl
inductive Ev where
 | tx (k s : Str)
 | st (tag : Str) (as : List (Str × Str))
noncomputable def evP : Ev -> PV
 | .tx k s => .tup [.str k, .str s]
 | .st t as => .tup [.str "start", .tup [.str t, .lst (as.map pp)]]
structure RS where
 ev : List Ev
 nm : List (Px × Bool)
 lv : List RL
inductive Tk where
 | text (s : List Nat)
 | comment (s : List Nat)
 | pi (s : List Nat)
 | start (p : Px) (b : Bool) (rs : List Pr)
 | stop (p : Px) (b : Bool)
noncomputable def cmO : List Nat := [60, 33, 45, 45]
noncomputable def cmC : List Nat := [45, 45, 62]
noncomputable def piO (s : List Nat) : List Nat := [60, 63, 116] ++ if s = [] then [] else [32]
noncomputable def piC : List Nat := [63, 62]
noncomputable def prS (r : Pr) : List Nat := (atS r.pv).cps.toList
noncomputable def Tk.s : Tk -> List Nat
 | .text s => escC s
 | .comment s => cmO ++ escC s ++ cmC
 | .pi s => piO s ++ escC s ++ piC
 | .start p b rs => 60 :: ((wn p b).cps.toList ++ (rs.flatMap prS ++ [62]))
 | .stop p b => 60 :: 47 :: ((wn p b).cps.toList ++ [62])
inductive Step : RS -> Tk -> RS -> Prop
 | text {ev nm lv} (s : List Nat) : s ≠ [] -> Step ⟨ev, nm, lv⟩ (.text s) ⟨ev ++ [.tx "text" (Sl s)], nm, lv⟩
 | comment {ev nm lv} (s : List Nat) : Step ⟨ev, nm, lv⟩ (.comment s) ⟨ev ++ [.tx "comment" (Sl (cmO ++ s ++ cmC))], nm, lv⟩
 | pi {ev nm lv} (s : List Nat) : Step ⟨ev, nm, lv⟩ (.pi s) ⟨ev ++ [.tx "pi" (Sl (piO s ++ s ++ piC))], nm, lv⟩
 | start {ev nm lv l u u0} (p : Px) (b : Bool) (rs : List Pr) : rs.length <= 7 -> (atts (nsAll l rs) rs).length <= 4 -> l.length <= 1000 -> (nsAll l rs).lookup p = some u -> (nsAll l rs).lookup 0 = some u0 ->
   (∀ q b v, Pr.at q b v ∈ rs -> q ≠ 0 -> ∃ u, (nsAll l rs).lookup q = some u) ->
   Step ⟨ev, nm, lv ++ [l]⟩ (.start p b rs) ⟨ev ++ [.st (nmS (u, b)) (srtL (atts (nsAll l rs) rs))], nm ++ [(p, b)], lv ++ [l] ++ [nsAll l rs]⟩
 | stop {ev nm lv l u u0} (p : Px) (b : Bool) : l.lookup p = some u -> l.lookup 0 = some u0 -> Step ⟨ev, nm ++ [(p, b)], lv ++ [l]⟩ (.stop p b) ⟨ev ++ [.tx "end" (nmS (u, b))], nm, lv⟩
noncomputable def Tk.isText : Tk -> Bool
 | .text _ => true
 | _ => false
inductive Run : RS -> List Tk -> RS -> Prop
 | nil {r} : Run r [] r
 | cons {r r' r'' t ts} : Step r t r' -> (t.isText = true -> ∃ t' ts', ts = t' :: ts' /\ t'.isText = false) -> Run r' ts r'' -> Run r (t :: ts) r''
section
variable {c : Cx} {env : Env} {σ σ' τ : Store} {s : Shared} {Q : PV -> Store -> Prop} {N : Store -> Prop} {R : PV -> Store -> Prop} {L : Addr} {ns : List Str} {vs : List (Option PV)}
theorem Binds.su {x : Str} {p : PV} {xs : List Str} {ps : List PV} {vs' : List (Option PV)} (F : Fm env L ns) (hs : Su x p ns vs vs') (h : Binds c env xs ps ((L, .loc ns vs') :: τ) N) : Binds c env (x :: xs) (p :: ps) ((L, .loc ns vs) :: τ) N := fun V v hv =>
 W.su (c := c) (Q := fun _ _ σ' => Binds c env xs ps σ' N) F.lo F.loc hv hs fun _ _ => h
theorem Asg.cell {x : Str} {pos : Pos} {p : PV} {cc : Addr} {q : Option PV} (hk : env.scope.kind = .function) (hl : env.kindOf x = some .cell) (hc : env.cells.lookup x = some cc) (hp : (∃ u, p = .raw u) \/ ∃ x, p = .str x)
  (U : Up cc (.that (CellIs q)) (.that (CellIs (some p))) σ σ') (h : N σ') : Asg c env (.Name x pos) p σ N := fun V v hv A s hA Rp hV =>
 PyProof.Rows.assign_Name (W.stc (c := c) (Q := fun _ _ σ' => N σ') hk hl hc hv hp U (fun _ _ => h) A s hA Rp hV)
theorem E.dictC2 {x1 x2 y1 y2 : Str} {k1 k2 k3 k4 : Nat} {p1 p2 p3 p4 pos : Pos} {p : Addr × Cell} {τ : Store} (he : σ = p :: τ) (hne : x1 ≠ x2) (h : ∀ a, Q (.raw (.ref a)) (p :: (a, .dict [(x1, .str y1), (x2, .str y2)]) :: τ)) :
  E c env (.Dict [some (.Constant (.str x1) k1 p1), some (.Constant (.str x2) k2 p2)] [.Constant (.str y1) k3 p3, .Constant (.str y2) k4 p4] pos) σ Q := fun V A s hA R hV => by
 subst he
 refine wpAny_Dict_pairs (knd := PySem.strKind c.prog c.w) (pairs := [(eval (.Constant (.str x1) k1 p1) env, do let x <- eval (.Constant (.str y1) k3 p3) env; standAt pos; pure x), (eval (.Constant (.str x2) k2 p2) env, do let x <- eval (.Constant (.str y2) k4 p4) env; standAt pos; pure x)]) rfl (by simp) (by show 2 <= 15; lia) ?_
 refine evalPairs_cons (wpAny_Constant_str (wb (wpAny_Constant_str (wb (wpAny_standAt (wq ?_))))))
 refine evalPairs_cons (wpAny_Constant_str (wb (wpAny_Constant_str (wb (wpAny_standAt (wq ?_))))))
 refine evalPairs_nil ⟨[(x1, .str y1 (s.toks + 1)), (x2, .str y2 (s.toks + 1 + 1 + 1))], ⟨?_, rfl, ?_, rfl, trivial⟩, Heap.DictOf.new s.heap, fun h' hd hs => ?_⟩
 ·exact decide_eq_true rfl
 ·exact decide_eq_true rfl
 obtain ⟨o', ho', hd'⟩ := Heap.dictOf_iff.mp hd
 have kp : ∀ b o, s.heap.get? b = some o -> h'.get? b = some o := fun b o e => by
  rw [hs.2 b (Nat.ne_of_lt (get_lt e))]
  exact Heap.get?_push_of_some _ e
 have em : merged ([] : List (Str × Value)) [(x1, .str y1 (s.toks + 1)), (x2, .str y2 (s.toks + 1 + 1 + 1))] = [(x1, .str y1 (s.toks + 1)), (x2, .str y2 (s.toks + 1 + 1 + 1))] := by
  simp [merged, stored, hne]
 rw [em] at hd'
 have out := (R.newCell2 (a := s.heap.objs.size) (x := .dict [(x1, .str y1), (x2, .str y2)]) (tk := s.toks + 1 + 1 + 1 + 1 + 2) kp (Nat.le_refl _) ho' ⟨_, hd', .cons (.str _ _) (.cons (.str _ _) .nil)⟩ (by lia)).perm_r (σ₂ := p :: (s.heap.objs.size, .dict [(x1, .str y1), (x2, .str y2)]) :: τ) (.swap _ _ _)
 exact ⟨_, out, _, .raw _, h _⟩
theorem Ca.dictOf2 {d : Addr} {l : List (Str × PV)} {p : Addr × Cell} {τ : Store} (he : σ = p :: τ) (hm : (d, Cell.dict l) ∈ σ) (hz : l.length <= sizeLine) (h : ∀ a, Q (.raw (.ref a)) (p :: (a, .dict l) :: τ)) : Ca c (.type "dict") [.raw (.ref d)] σ Q := fun V vs hv A s hA R hV => by
 refine W.onr (Ca.dictOf (Q := fun r σ' => ∃ a, r = .raw (.ref a) /\ σ' = (a, .dict l) :: σ) hm hz (fun a => ⟨a, rfl, rfl⟩) V vs hv) hA R hV (fun v s' σ' o r rv hq1 => ?_)
 obtain ⟨a, e1, e2⟩ := hq1
 subst e1 e2 he
 exact ⟨_, o.perm_r (σ₂ := p :: (a, .dict l) :: τ) (.swap _ _ _), _, (o.perm_r (σ₂ := p :: (a, .dict l) :: τ) (.swap _ _ _)).view |> fun _ => by
  have := rv.inv_raw
  subst this
  exact .raw _, h a⟩
end
noncomputable def fd192 : FuncData := getFd (a := 192) rfl
noncomputable def bd192 : List Stmt := getBody (fd := fd192) rfl
theorem at192 (P : Params) : FnAt P 192 fd192 := by kernel_rfl
theorem cd192 (P : Params) : codeIn (KK P) fd192.code fd192.qualname = true := by kernel_rfl
noncomputable def getWh {l : List Stmt} {s : Stmt} {t : PySem.Expr} {b o : List Stmt} {p : Pos} {r : List Stmt} (_ : l = s :: .While t b o p :: r) : List Stmt := b
noncomputable def getFo {l : List Stmt} {t i : PySem.Expr} {b o : List Stmt} {p : Pos} {r : List Stmt} (_ : l = .For t i b o p :: r) : List Stmt := b
noncomputable def getIf {l : List Stmt} {t : PySem.Expr} {b o : List Stmt} {p : Pos} {r : List Stmt} (_ : l = .If t b o p :: r) : List Stmt := b
noncomputable def getEl {l : List Stmt} {t : PySem.Expr} {b o : List Stmt} {p : Pos} {r : List Stmt} (_ : l = .If t b o p :: r) : List Stmt := o
noncomputable def bw192 : List Stmt := getWh (l := bd192) rfl
noncomputable abbrev NR : List Str := ["events", "names", "levels", "at", "stop", "name", "pairs", "middle", "behind", "key", "value", "attrs"]
noncomputable abbrev rdT (L ea na la : Addr) (x : Str) (q : Option PV) (rs : RS) (ad : List Addr) (σ : Store) : Store :=
 (L + 1, .that (CellIs (some (.str x)))) :: (L + 2, .that (CellIs q)) :: (ea, .list (rs.ev.map evP)) :: (na, .list (rs.nm.map fun n => .str (wn n.1 n.2))) :: (la, .list (ad.map fun a => .raw (.ref a))) :: ((ad.zip rs.lv).map (fun x => (x.1, Cell.dict (rlD x.2))) ++ σ)
noncomputable abbrev rS (L ea na la : Addr) (i : Int) (g1 g2 g3 g4 g5 g6 g7 g8 : Option PV) (x : Str) (q : Option PV) (rs : RS) (ad : List Addr) (σ : Store) : Store :=
 (L, .loc NR [some (.raw (.ref ea)), some (.raw (.ref na)), some (.raw (.ref la)), some (.int i), g1, g2, g3, g4, g5, g6, g7, g8]) :: rdT L ea na la x q rs ad σ
section
variable {c : Cx} {σ : Store} {L ea na la : Addr} {N : Store -> Prop} {R : PV -> Store -> Prop} {g1 g2 g3 g4 g5 g6 g7 g8 q : Option PV} {x : Str} {rs : RS} {ad : List Addr}
theorem beq_S1 (a b : Nat) : ((Sl [a] : Str) != Sl [b]) = !decide (a = b) := by
 have : ((Sl [a] : Str) == Sl [b]) = decide (a = b) := by
  by_cases h : a = b
  ·subst h; simp
  ·have h2 : (Sl [a] : Str) ≠ Sl [b] := fun e => h (by have := congrArg (fun s : Str => s.cps.toList) e; simpa [Sl] using this)
   rw [decide_eq_false h]
   simpa using h2
 unfold bne; rw [this]
theorem beq_S1' (a b : Nat) : ((Sl [a] : Str) == Sl [b]) = decide (a = b) := by
 have := beq_S1 a b
 unfold bne at this
 rw [<- Bool.not_not (_ == _), this, Bool.not_not]
theorem Ca.index' {Q : PV -> Store -> Prop} {A u p' rest : List Nat} {t : Nat} {y : Str} {k : Int} (hx : x = Sl (A ++ (u ++ ((t :: p') ++ rest)))) (hy : y.cps.toList = t :: p') (hu : t ∉ u) (hk : k = (A.length : Int)) (h : Q (.int ((A.length + u.length : Nat) : Int)) σ) :
  Ca c (.builtin "str.index") [.str x, .str y, .int k] σ Q := by
 subst hx
 exact Ca.index hy hu hk h
theorem rd_index (F : Fm (callEnvC fd192 L 192) L NR) {dn u r : List Nat} {ch t : Nat} (hx : x = Sl (dn ++ (u ++ ([t] ++ r)))) (hz : x.length <= 1000000) (hu : t ∉ u) (h0 : u.head? = some ch) (ht : t = if ch = 60 then 62 else 60)
  (h : Xs c (callEnvC fd192 L 192) (bw192.drop 1) (rS L ea na la dn.length (some (.int ((dn.length + u.length : Nat) : Int))) g2 g3 g4 g5 g6 g7 g8 x q rs ad σ) N R) :
  Xs c (callEnvC fd192 L 192) bw192 (rS L ea na la dn.length g1 g2 g3 g4 g5 g6 g7 g8 x q rs ad σ) N R := by
 obtain ⟨u', rfl⟩ : ∃ u', u = ch :: u' := by
  cases u with
  | nil => cases h0
  | cons a u' => simp at h0; subst h0; exact ⟨_, rfl⟩
 have hxl : x.length = dn.length + (u'.length + 1) + 1 + r.length := by rw [hx, len_Sl]; simp; lia
 have hch : x.cps.toList[((dn.length : Int)).toNat]? = some ch := by
  rw [hx, Int.toNat_natCast]
  exact sl_at dn _ ch
 refine Xs.cons (X.nm F (E.meth (E.cell rfl rfl rfl (.tail _ (.head _)) (Gm.index (Es.cons (E.ifexp (T.cmp (E.sub (E.cell rfl rfl rfl (.tail _ (.head _)) (E.n F (It.str (by lia) (by lia) hch (E.str (Cmp.ne_str (Tr.bool ?_)))))))) ) rfl))) rfl))
 have e1 : ((Sl [ch] : Str) != ("<" : Str)) = !decide (ch = 60) := beq_S1 ch 60
 rw [e1]
 by_cases hc : ch = 60
 ·rw [if_neg (by simp [hc])]
  refine E.str (Es.cons (E.n F (Es.nil ⟨.builtin, ?_⟩)) rfl)
  exact Ca.index' hx (t := t) (by rw [ht, if_pos hc]; decide +kernel) hu rfl ⟨_, _, _, rfl, by trivial, h⟩
 ·rw [if_pos (by simp [hc])]
  refine E.str (Es.cons (E.n F (Es.nil ⟨.builtin, ?_⟩)) rfl)
  exact Ca.index' hx (t := t) (by rw [ht, if_neg hc]; decide +kernel) hu rfl ⟨_, _, _, rfl, by trivial, h⟩
end
section
variable {c : Cx} {σ : Store} {L ea na la : Addr} {N : Store -> Prop} {R : PV -> Store -> Prop} {g1 g2 g3 g4 g5 g6 g7 g8 q : Option PV} {x : Str} {ad : List Addr} {ev : List Ev} {nm : List (Px × Bool)} {lv : List RL}
theorem app_ev (ev : List Ev) (e : Ev) : (ev ++ [e]).map evP = ev.map evP ++ [evP e] := by simp
theorem rd_text (B : Base c) (hd : c.d < recursionLimit) (F : Fm (callEnvC fd192 L 192) L NR) {dn r s : List Nat} (hs : s ≠ []) (hx : x = Sl (dn ++ (escC s ++ ([60] ++ r)))) (hz : x.length <= 1000000) (hev : ev.length <= 100000)
  (h : N (rS L ea na la ((dn.length + (escC s).length : Nat) : Int) (some (.int (((dn.length + (escC s).length : Nat) : Int) - 1))) g2 g3 g4 g5 g6 g7 g8 x q ⟨ev ++ [.tx "text" (Sl s)], nm, lv⟩ ad σ)) :
  Xs c (callEnvC fd192 L 192) bw192 (rS L ea na la dn.length g1 g2 g3 g4 g5 g6 g7 g8 x q ⟨ev, nm, lv⟩ ad σ) N R := by
 have hle := escC_len s
 have hne : escC s ≠ [] := fun e => by
  rw [e] at hle
  exact hs (List.length_eq_zero_iff.mp (by simpa using hle.2))
 obtain ⟨ch, u', hu'⟩ := List.exists_cons_of_ne_nil hne
 have hch60 : ch ≠ 60 := (escC_mem (l := s) (d := ch) (by rw [hu']; exact .head _)).1
 have hxl : x.length = dn.length + (escC s).length + 1 + r.length := by rw [hx, len_Sl]; simp; lia
 have hxc : x.cps.toList[((dn.length : Int)).toNat]? = some ch := by
  rw [hx, Int.toNat_natCast, hu']
  exact sl_at dn _ ch
 refine rd_index F hx hz (fun h => (escC_mem h).1 rfl) (by rw [hu']; rfl) (by rw [if_neg hch60]) ?_
 refine Xs.cons (X.iff (T.cmp (E.sub (E.cell rfl rfl rfl (.tail _ (.head _)) (E.n F (It.str (by lia) (by lia) hxc (E.str (Cmp.ne_str (Tr.bool ?_)))))))))
 rw [show ((Sl [ch] : Str) != ("<" : Str)) = !decide (ch = 60) from beq_S1 ch 60, if_pos (by simp [hch60])]
 refine Xs.cons (X.expr (E.meth (E.n F (Gm.append (.tail _ (.tail _ (.tail _ (.head _)))) (Es.cons (E.tuple (Es.strC (Es.cons (E.call (E.globK (v := .ref 180) B rfl rfl rfl (by kernel_rfl) ⟨_, rfl, Es.cons (E.slStr (E.cell rfl rfl rfl (.tail _ (.head _)) (Pt.some (E.n F ⟨_, rfl, Pt.some (E.n F ⟨_, rfl, _, rfl, le_sz (by lia), ?_⟩)⟩)))) rfl⟩)) rfl))) rfl))) rfl))
 rw [hx, sl_mid dn (escC s) ([60] ++ r) rfl rfl]
 refine Es.nil ⟨.fn B (at180 _), Ca180 B hd (by lia) ?_⟩
 refine Es.nil ⟨le_sz (by show 2 <= 16777216; decide), Es.nil ⟨.builtin, Ca.append (.tail (.tail (.tail .head))) (le_sz (by rw [lnM]; show ev.length <= _; lia)) ?_⟩⟩
 refine Xs.cons (X.aug F.lo F.loc (.head _) (by trivial) (E.int fun V va vb ra rb A s' hA Rp hV => ?_))
 ·obtain ⟨t, rfl⟩ := ra.inv_int
  obtain ⟨u, rfl⟩ := rb.inv_int
  refine PySem.P.isub_int (ret_toks Rp (Nat.le_succ _) (.int _ _) ⟨_, _, _, rfl, by trivial, ?_⟩)
  refine Xs.nil (Xs.cons (X.nm F (E.binop (E.n F (E.int (Bin.add_int ⟨_, _, _, rfl, by trivial, Xs.nil ?_⟩))))))
  have e1 : ((dn.length + (escC s).length : Nat) : Int) - 1 + 1 = ((dn.length + (escC s).length : Nat) : Int) := by lia
  have e2 : plainL (escC s) = s := by
   have := plain_escC (pre := []) (post := []) (by simp) (by simp) s
   simpa using this
  rw [e1, e2]
  have h' := h
  unfold rS rdT at h'
  rw [app_ev, hx] at h'
  exact h'
theorem rd_comment (B : Base c) (hd : c.d < recursionLimit) (F : Fm (callEnvC fd192 L 192) L NR) {dn r s : List Nat} (hx : x = Sl (dn ++ ((cmO ++ escC s ++ cmC) ++ r))) (hz : x.length <= 1000000) (hev : ev.length <= 100000)
  (h : N (rS L ea na la ((dn.length + (cmO ++ escC s ++ cmC).length : Nat) : Int) (some (.int ((dn.length + (60 :: 33 :: ([45, 45] ++ escC s ++ [45, 45])).length : Nat) : Int))) g2 g3 g4 g5 g6 g7 g8 x q ⟨ev ++ [.tx "comment" (Sl (cmO ++ s ++ cmC))], nm, lv⟩ ad σ)) :
  Xs c (callEnvC fd192 L 192) bw192 (rS L ea na la dn.length g1 g2 g3 g4 g5 g6 g7 g8 x q ⟨ev, nm, lv⟩ ad σ) N R := by
 have hxl : x.length = dn.length + (cmO ++ escC s ++ cmC).length + r.length := by rw [hx, len_Sl]; simp <;> lia
 have hcl : (cmO ++ escC s ++ cmC).length = (escC s).length + 7 := by simp [cmO, cmC] <;> lia
 have hxu : x = Sl (dn ++ ((60 :: 33 :: ([45, 45] ++ escC s ++ [45, 45])) ++ ([62] ++ r))) := by rw [hx]; simp [cmO, cmC]
 have hul : (60 :: 33 :: ([45, 45] ++ escC s ++ [45, 45])).length = (escC s).length + 6 := by simp <;> lia
 have hc1 : x.cps.toList[((dn.length : Int)).toNat]? = some 60 := by
  rw [hxu, Int.toNat_natCast]
  exact sl_at dn _ _
 have hc2 : x.cps.toList[((dn.length : Int) + 1).toNat]? = some 33 := by
  have e : ((dn.length : Int) + 1).toNat = (dn ++ [60]).length := by simp <;> lia
  rw [hxu, e, show dn ++ ((60 :: 33 :: ([45, 45] ++ escC s ++ [45, 45])) ++ ([62] ++ r)) = (dn ++ [60]) ++ (33 :: (([45, 45] ++ escC s ++ [45, 45]) ++ ([62] ++ r))) by simp]
  exact sl_at _ _ _
 refine rd_index F hxu hz (fun h => ?_) rfl rfl ?_
 ·have hh := fun h : 62 ∈ escC s => (escC_mem h).2 rfl
  simp at h
  exact hh h
 refine Xs.cons (X.iff (T.cmp (E.sub (E.cell rfl rfl rfl (.tail _ (.head _)) (E.n F (It.str (by lia) (by lia) hc1 (E.str (Cmp.ne_str (Tr.bool ?_)))))))))
 rw [show ((Sl [60] : Str) != ("<" : Str)) = !decide (60 = 60) from beq_S1 60 60, if_neg (by simp)]
 refine Xs.cons (X.iff (T.cmp (E.sub (E.cell rfl rfl rfl (.tail _ (.head _)) (E.binop (E.n F (E.int (Bin.add_int (It.str (by lia) (by lia) hc2 (E.str (Cmp.eq_str (Tr.bool ?_)))))))))) ))
 rw [show ((Sl [33] : Str) == ("!" : Str)) = decide (33 = 33) from beq_S1' 33 33, if_pos (by simp)]
 refine Xs.cons (X.expr (E.meth (E.n F (Gm.append (.tail _ (.tail _ (.tail _ (.head _)))) (Es.cons (E.tuple (Es.strC (Es.cons (E.call (E.globK (v := .ref 180) B rfl rfl rfl (by kernel_rfl) ⟨_, rfl, Es.cons (E.slStr (E.cell rfl rfl rfl (.tail _ (.head _)) (Pt.some (E.n F ⟨_, rfl, Pt.some (E.binop (E.n F (E.int (Bin.add_int ⟨_, rfl, _, rfl, le_sz (by lia), ?_⟩))))⟩)))) rfl⟩)) rfl))) rfl))) rfl))
 rw [hx, sl_mid dn (cmO ++ escC s ++ cmC) r rfl (by rw [hul, hcl]; lia)]
 refine Es.nil ⟨.fn B (at180 _), Ca180 B hd (by lia) ?_⟩
 refine Es.nil ⟨le_sz (by show 2 <= 16777216; decide), Es.nil ⟨.builtin, Ca.append (.tail (.tail (.tail .head))) (le_sz (by rw [lnM]; show ev.length <= _; lia)) ?_⟩⟩
 refine Xs.nil (Xs.nil (Xs.cons (X.nm F (E.binop (E.n F (E.int (Bin.add_int ⟨_, _, _, rfl, by trivial, Xs.nil ?_⟩)))))))
 have e1 : ((dn.length + (60 :: 33 :: ([45, 45] ++ escC s ++ [45, 45])).length : Nat) : Int) + 1 = ((dn.length + (cmO ++ escC s ++ cmC).length : Nat) : Int) := by rw [hul, hcl]; lia
 rw [e1, plain_escC (pre := cmO) (post := cmC) (by decide) (by decide) s]
 have h' := h
 unfold rS rdT at h'
 rw [app_ev, hx] at h'
 exact h'
theorem rd_pi (B : Base c) (hd : c.d < recursionLimit) (F : Fm (callEnvC fd192 L 192) L NR) {dn r s : List Nat} (hx : x = Sl (dn ++ ((piO s ++ escC s ++ piC) ++ r))) (hz : x.length <= 1000000) (hev : ev.length <= 100000)
  (h : ∀ g, N (rS L ea na la ((dn.length + (piO s ++ escC s ++ piC).length : Nat) : Int) g g2 g3 g4 g5 g6 g7 g8 x q ⟨ev ++ [.tx "pi" (Sl (piO s ++ s ++ piC))], nm, lv⟩ ad σ)) :
  Xs c (callEnvC fd192 L 192) bw192 (rS L ea na la dn.length g1 g2 g3 g4 g5 g6 g7 g8 x q ⟨ev, nm, lv⟩ ad σ) N R := by
 obtain ⟨o, ho⟩ : ∃ o, o = (116 :: if s = [] then [] else [32]) := ⟨_, rfl⟩
 have hpo : piO s = 60 :: 63 :: o := by rw [ho]; rfl
 have hom : 62 ∉ o /\ 38 ∉ o := by rw [ho]; split <;> decide
 have hxl : x.length = dn.length + (piO s ++ escC s ++ piC).length + r.length := by rw [hx, len_Sl]; simp <;> lia
 have hcl : (piO s ++ escC s ++ piC).length = (o ++ escC s).length + 4 := by rw [hpo]; simp [piC] <;> lia
 have hxu : x = Sl (dn ++ ((60 :: 63 :: (o ++ escC s ++ [63])) ++ ([62] ++ r))) := by rw [hx, hpo]; simp [piC]
 have hul : (60 :: 63 :: (o ++ escC s ++ [63])).length = (o ++ escC s).length + 3 := by simp <;> lia
 have hc1 : x.cps.toList[((dn.length : Int)).toNat]? = some 60 := by
  rw [hxu, Int.toNat_natCast]
  exact sl_at dn _ _
 have hc2 : x.cps.toList[((dn.length : Int) + 1).toNat]? = some 63 := by
  have e : ((dn.length : Int) + 1).toNat = (dn ++ [60]).length := by simp <;> lia
  rw [hxu, e, show dn ++ ((60 :: 63 :: (o ++ escC s ++ [63])) ++ ([62] ++ r)) = (dn ++ [60]) ++ (63 :: ((o ++ escC s ++ [63]) ++ ([62] ++ r))) by simp]
  exact sl_at _ _ _
 refine rd_index F hxu hz (fun h => ?_) rfl rfl ?_
 ·have hh := fun h : 62 ∈ escC s => (escC_mem h).2 rfl
  simp at h
  exact h.elim hom.1 hh
 refine Xs.cons (X.iff (T.cmp (E.sub (E.cell rfl rfl rfl (.tail _ (.head _)) (E.n F (It.str (by lia) (by lia) hc1 (E.str (Cmp.ne_str (Tr.bool ?_)))))))))
 rw [show ((Sl [60] : Str) != ("<" : Str)) = !decide (60 = 60) from beq_S1 60 60, if_neg (by simp)]
 refine Xs.cons (X.iff (T.cmp (E.sub (E.cell rfl rfl rfl (.tail _ (.head _)) (E.binop (E.n F (E.int (Bin.add_int (It.str (by lia) (by lia) hc2 (E.str (Cmp.eq_str (Tr.bool ?_)))))))))) ))
 rw [show ((Sl [63] : Str) == ("!" : Str)) = decide (63 = 33) from beq_S1' 63 33, if_neg (by simp)]
 refine Xs.cons (X.iff (T.cmp (E.sub (E.cell rfl rfl rfl (.tail _ (.head _)) (E.binop (E.n F (E.int (Bin.add_int (It.str (by lia) (by lia) hc2 (E.str (Cmp.eq_str (Tr.bool ?_)))))))))) ))
 rw [show ((Sl [63] : Str) == ("?" : Str)) = decide (63 = 63) from beq_S1' 63 63, if_pos (by simp)]
 refine Xs.cons (X.expr (E.meth (E.n F (Gm.append (.tail _ (.tail _ (.tail _ (.head _)))) (Es.cons (E.tuple (Es.strC (Es.cons (E.call (E.globK (v := .ref 180) B rfl rfl rfl (by kernel_rfl) ⟨_, rfl, Es.cons (E.slStr (E.cell rfl rfl rfl (.tail _ (.head _)) (Pt.some (E.n F ⟨_, rfl, Pt.some (E.binop (E.n F (E.int (Bin.add_int ⟨_, rfl, _, rfl, le_sz (by lia), ?_⟩))))⟩)))) rfl⟩)) rfl))) rfl))) rfl))
 rw [hx, sl_mid dn (piO s ++ escC s ++ piC) r rfl (by rw [hul, hcl]; lia)]
 refine Es.nil ⟨.fn B (at180 _), Ca180 B hd (by lia) ?_⟩
 refine Es.nil ⟨le_sz (by show 2 <= 16777216; decide), Es.nil ⟨.builtin, Ca.append (.tail (.tail (.tail .head))) (le_sz (by rw [lnM]; show ev.length <= _; lia)) ?_⟩⟩
 refine Xs.nil (Xs.nil (Xs.nil (Xs.cons (X.nm F (E.binop (E.n F (E.int (Bin.add_int ⟨_, _, _, rfl, by trivial, Xs.nil ?_⟩))))))))
 have e1 : ((dn.length + (60 :: 63 :: (o ++ escC s ++ [63])).length : Nat) : Int) + 1 = ((dn.length + (piO s ++ escC s ++ piC).length : Nat) : Int) := by rw [hul, hcl]; lia
 rw [e1, plain_escC (pre := piO s) (post := piC) (by rw [hpo]; simp [hom.2]) (by decide) s]
 have h' := h
 unfold rS rdT at h'
 rw [app_ev, hx] at h'
 exact h' _
theorem rd_stop (B : Base c) (hd : c.d < recursionLimit) (F : Fm (callEnvC fd192 L 192) L NR) {dn r : List Nat} {p : Px} {b : Bool} {a : Addr} {l : RL} {u u0 : U} (hal : ad.length = lv.length) (hu : l.lookup p = some u) (hu0 : l.lookup 0 = some u0)
  (hx : x = Sl (dn ++ (60 :: 47 :: ((wn p b).cps.toList ++ [62]) ++ r))) (hz : x.length <= 1000000) (hev : ev.length <= 100000) (hnm : nm.length <= 100000) (hlv : lv.length <= 100000)
  (h : ∀ g, N (rS L ea na la ((dn.length + (60 :: 47 :: ((wn p b).cps.toList ++ [62])).length : Nat) : Int) g g2 g3 g4 g5 g6 g7 g8 x (some (.raw (.ref a))) ⟨ev ++ [.tx "end" (nmS (u, b))], nm, lv⟩ ad σ)) :
  Xs c (callEnvC fd192 L 192) bw192 (rS L ea na la dn.length g1 g2 g3 g4 g5 g6 g7 g8 x q ⟨ev, nm ++ [(p, b)], lv ++ [l]⟩ (ad ++ [a]) σ) N R := by
 obtain ⟨w, hw⟩ : ∃ w, w = (wn p b).cps.toList := ⟨_, rfl⟩
 have hwe : wn p b = Sl w := by rw [hw]; exact Str_eta _
 have hwm : 62 ∉ w := fun h => by rw [hw] at h; exact (wn_mem h).2.2.1 rfl
 rw [<- hw] at hx
 rw [<- hw] at h
 have hxl : x.length = dn.length + (w.length + 3) + r.length := by rw [hx, len_Sl]; simp <;> lia
 have hxu : x = Sl (dn ++ ((60 :: 47 :: w) ++ ([62] ++ r))) := by rw [hx]; simp
 have hul : (60 :: 47 :: w).length = w.length + 2 := by simp
 have hc1 : x.cps.toList[((dn.length : Int)).toNat]? = some 60 := by
  rw [hxu, Int.toNat_natCast]
  exact sl_at dn _ _
 have hx2 : x = Sl ((dn ++ [60, 47]) ++ (w ++ ([62] ++ r))) := by rw [hx]; simp
 have hc2 : x.cps.toList[((dn.length : Int) + 1).toNat]? = some 47 := by
  have e : ((dn.length : Int) + 1).toNat = (dn ++ [60]).length := by simp <;> lia
  rw [hxu, e, show dn ++ ((60 :: 47 :: w) ++ ([62] ++ r)) = (dn ++ [60]) ++ (47 :: (w ++ ([62] ++ r))) by simp]
  exact sl_at _ _ _
 have hsl : Txt.slice x (some ((dn.length : Int) + 2)) (some ((dn.length + (60 :: 47 :: w).length : Nat) : Int)) = wn p b := by
  rw [hx2, sl_mid (dn ++ [60, 47]) w ([62] ++ r) (by simp <;> lia) (by simp <;> lia), hwe]
 have hmem : (a, Cell.dict (rlD l)) ∈ (((ad ++ [a]).zip (lv ++ [l])).map (fun x => (x.1, Cell.dict (rlD x.2))) ++ σ) := by
  rw [List.zip_append hal, List.map_append]
  exact memL _ (memR _ (.head _))
 refine rd_index F hxu hz (fun h => ?_) rfl rfl ?_
 ·simp at h
  exact hwm h
 refine Xs.cons (X.iff (T.cmp (E.sub (E.cell rfl rfl rfl (.tail _ (.head _)) (E.n F (It.str (by lia) (by lia) hc1 (E.str (Cmp.ne_str (Tr.bool ?_)))))))))
 rw [show ((Sl [60] : Str) != ("<" : Str)) = !decide (60 = 60) from beq_S1 60 60, if_neg (by simp)]
 refine Xs.cons (X.iff (T.cmp (E.sub (E.cell rfl rfl rfl (.tail _ (.head _)) (E.binop (E.n F (E.int (Bin.add_int (It.str (by lia) (by lia) hc2 (E.str (Cmp.eq_str (Tr.bool ?_)))))))))) ))
 rw [show ((Sl [47] : Str) == ("!" : Str)) = decide (47 = 33) from beq_S1' 47 33, if_neg (by simp)]
 refine Xs.cons (X.iff (T.cmp (E.sub (E.cell rfl rfl rfl (.tail _ (.head _)) (E.binop (E.n F (E.int (Bin.add_int (It.str (by lia) (by lia) hc2 (E.str (Cmp.eq_str (Tr.bool ?_)))))))))) ))
 rw [show ((Sl [47] : Str) == ("?" : Str)) = decide (47 = 63) from beq_S1' 47 63, if_neg (by simp)]
 refine Xs.cons (X.iff (T.cmp (E.sub (E.cell rfl rfl rfl (.tail _ (.head _)) (E.binop (E.n F (E.int (Bin.add_int (It.str (by lia) (by lia) hc2 (E.str (Cmp.eq_str (Tr.bool ?_)))))))))) ))
 rw [show ((Sl [47] : Str) == ("/" : Str)) = decide (47 = 47) from beq_S1' 47 47, if_pos (by simp)]
 have ela : (ad ++ [a]).map (fun a => PV.raw (.ref a)) = ad.map (fun a => PV.raw (.ref a)) ++ [.raw (.ref a)] := by simp
 have ena : (nm ++ [(p, b)]).map (fun n => PV.str (wn n.1 n.2)) = nm.map (fun n => PV.str (wn n.1 n.2)) ++ [.str (wn p b)] := by simp
 have hlm : ∀ {τ τ'' : Store} {y}, τ = (la, Cell.list ((ad ++ [a]).map fun a => PV.raw (.ref a))) :: τ'' -> Up la (.list (ad.map (fun a => PV.raw (.ref a)) ++ [.raw (.ref a)])) y τ ((la, y) :: τ'') := by
  rintro τ τ'' y rfl
  rw [ela]; exact .head
 have hnm' : ∀ {τ τ'' : Store} {y}, τ = (na, Cell.list ((nm ++ [(p, b)]).map fun n => PV.str (wn n.1 n.2))) :: τ'' -> Up na (.list (nm.map (fun n => PV.str (wn n.1 n.2)) ++ [.str (wn p b)])) y τ ((na, y) :: τ'') := by
  rintro τ τ'' y rfl
  rw [ena]; exact .head
 refine Xs.cons (X.cellN (cc := L + 2) rfl rfl rfl (E.meth (E.n F (Gm.pop (.tail _ (.tail _ (.tail _ (.tail _ (.tail _ (.head _)))))) (Es.nil ⟨.builtin, Ca.pop (.tail (.tail (.tail (.tail (.tail (hlm rfl)))))) (by rw [lnM, hal]; exact Nat.lt_of_le_of_lt hlv (by decide)) ?_⟩))) rfl))
 refine ⟨_, _, _, rfl, .tail (.tail .head), ?_⟩
 refine Xs.cons (X.expr (E.meth (E.n F (Gm.append (.tail _ (.tail _ (.tail _ (.head _)))) (Es.cons (E.tuple (Es.strC (Es.cons (E.call (E.globK (v := .ref 187) B rfl rfl rfl (by kernel_rfl) ⟨_, rfl, Es.cons (E.slStr (E.cell rfl rfl rfl (.tail _ (.head _)) (Pt.some (E.binop (E.n F (E.int (Bin.add_int ⟨_, rfl, Pt.some (E.n F ⟨_, rfl, _, rfl, le_sz (by lia), ?_⟩)⟩))))))) rfl⟩)) rfl))) rfl))) rfl))
 rw [hsl]
 refine Es.cons (E.cell rfl rfl rfl (.tail _ (.tail _ (.head _))) (Es.cons (E.sub (E.cell rfl rfl rfl (.tail _ (.tail _ (.head _))) (E.str (It.dict (p := .str (uS u0)) (.tail _ (.tail _ (.tail _ (.tail _ (.tail _ (.tail _ hmem)))))) ?_ ?_)))) rfl)) rfl
 ·have := rlD_lookup l 0
  rw [hu0] at this
  exact this
 refine Es.nil ⟨.fn B (at187 _), Ca187 B hd (u := u) (v := u0) (.tail _ (.tail _ (.tail _ (.tail _ (.tail _ (.tail _ hmem)))))) (fun _ => by rw [rlD_lookup, hu]; rfl) (fun e => by subst e; rw [hu] at hu0; exact Option.some.inj hu0) ?_⟩
 refine Es.nil ⟨le_sz (by show 2 <= 16777216; decide), Es.nil ⟨.builtin, Ca.append (.tail (.tail (.tail .head))) (le_sz (by rw [lnM]; show ev.length <= _; lia)) ?_⟩⟩
 refine Xs.cons (X.iff (T.cmp (E.meth (E.n F (Gm.pop (.tail _ (.tail _ (.tail _ (.tail _ (.head _))))) (Es.nil ⟨.builtin, Ca.pop (.tail (.tail (.tail (.tail (hnm' rfl))))) (by rw [lnM]; exact Nat.lt_of_le_of_lt hnm (by decide)) ?_⟩))) rfl)))
 refine E.slStr (E.cell rfl rfl rfl (.tail _ (.head _)) (Pt.some (E.binop (E.n F (E.int (Bin.add_int ⟨_, rfl, Pt.some (E.n F ⟨_, rfl, _, rfl, le_sz (by lia), ?_⟩)⟩))))))
 rw [hsl]
 refine Cmp.ne_str (Tr.bool ?_)
 rw [if_neg (by simp)]
 refine Xs.nil (Xs.nil (Xs.nil (Xs.nil (Xs.nil ?_))))
 refine Xs.drop (σ' := rS L ea na la dn.length (some (.int ((dn.length + (60 :: 47 :: w).length : Nat) : Int))) g2 g3 g4 g5 g6 g7 g8 x (some (.raw (.ref a))) ⟨ev ++ [.tx "end" (nmS (u, b))], nm, lv⟩ ad σ) ?_ ?_
 ·rw [List.zip_append hal, List.map_append, List.append_assoc]
  unfold rS rdT
  rw [app_ev]
  refine .cons_cons _ (.cons_cons _ (.cons_cons _ (.cons_cons _ (.cons_cons _ (.cons_cons _ ?_)))))
  exact (List.Sublist.refl _).append (List.sublist_append_right _ _)
 refine Xs.cons (X.nm F (E.binop (E.n F (E.int (Bin.add_int ⟨_, _, _, rfl, by trivial, Xs.nil ?_⟩)))))
 have e1 : ((dn.length + (60 :: 47 :: w).length : Nat) : Int) + 1 = ((dn.length + (60 :: 47 :: (w ++ [62])).length : Nat) : Int) := by simp <;> lia
 rw [e1]
 exact h _
end
theorem split_first {d : Nat} {l : List Nat} (h : d ∈ l) : ∃ u r, l = u ++ (d :: r) /\ d ∉ u := by
 induction l with
 | nil => cases h
 | cons a t ih =>
  by_cases e : a = d
  ·subst e; exact ⟨[], t, rfl, List.not_mem_nil⟩
  ·obtain ⟨u, r, e1, h1⟩ := ih ((List.mem_cons.mp h).resolve_left (Ne.symm e))
   exact ⟨a :: u, r, congrArg (a :: ·) e1, by simp [h1, Ne.symm e]⟩
theorem rg_filter (P : Nat -> Bool) {T j : Nat} (hj : j < T) (h0 : ∀ i, i < j -> P i = false) (h1 : P j = true) : ∃ ns, (List.range T).filter P = j :: ns /\ ∀ m ∈ ns, j <= m := by
 obtain ⟨m, rfl⟩ : ∃ m, T = j + (m + 1) := (Nat.exists_eq_add_of_lt hj).imp fun _ e => e
 rw [List.range_add, List.filter_append, List.filter_eq_nil_iff.mpr (fun a ha => by rw [h0 a (List.mem_range.mp ha)]; simp), List.nil_append, List.range_succ_eq_map, List.map_cons, List.filter_cons, Nat.add_zero, if_pos h1]
 refine ⟨_, rfl, fun k hk => ?_⟩
 have := (List.mem_filter.mp hk).1
 obtain ⟨a, _, rfl⟩ := List.mem_map.mp this
 exact Nat.le_add_right _ _
noncomputable def stT (x : Str) : PV -> Bool
 | .int k => match x.cps.toList[k.toNat]? with
  | some ch => decide (ch ∈ [32, 62])
  | none => false
 | _ => false
theorem rg_first {x : Str} {dn w r : List Nat} {ch : Nat} (hx : x = Sl (dn ++ (60 :: w ++ (ch :: r)))) (hw : ∀ d ∈ w, d ≠ 32 /\ d ≠ 62) (hc : ch = 32 \/ ch = 62) :
  ∃ ns : List Int, ((rgL (dn.length : Int) (x.length : Int)).filter (stT x)).map id = (((dn.length + (w.length + 1) : Nat) : Int) :: ns).map .int /\ ∀ m ∈ ns, ((dn.length + (w.length + 1) : Nat) : Int) <= m := by
 have hxl : x.length = dn.length + ((w.length + 1) + (r.length + 1)) := by rw [hx, len_Sl]; simp <;> lia
 have hT : ((x.length : Int) - (dn.length : Int)).toNat = (w.length + 1) + (r.length + 1) := by rw [hxl]; exact (Int.toNat_sub _ _).trans (Nat.add_sub_cancel_left ..)
 have hg : ∀ i : Nat, stT x (.int ((dn.length : Int) + (i : Nat))) = match (60 :: w ++ (ch :: r))[i]? with
   | some ch => decide (ch ∈ [32, 62])
   | none => false := fun i => by
  have e : ((dn.length : Int) + (i : Nat)).toNat = dn.length + i := rfl
  show (match x.cps.toList[((dn.length : Int) + (i : Nat)).toNat]? with | some ch => decide (ch ∈ [32, 62]) | none => false) = _
  rw [e, hx, cps_Sl, List.getElem?_append_right (Nat.le_add_right _ _)]
  have : dn.length + i - dn.length = i := Nat.add_sub_cancel_left ..
  rw [this]
 obtain ⟨ns, h1, h2⟩ := rg_filter (fun i => stT x (.int ((dn.length : Int) + (i : Nat)))) (T := (w.length + 1) + (r.length + 1)) (j := w.length + 1) (by lia) (fun i hi => by
   show stT x _ = false
   rw [hg, List.getElem?_append_left (by simpa using hi)]
   have hm : (60 :: w)[i]? = some ((60 :: w)[i]'(by simpa using hi)) := List.getElem?_eq_getElem _
   rw [hm]
   have hd : (60 :: w)[i]'(by simpa using hi) ∈ 60 :: w := List.getElem_mem _
   generalize (60 :: w)[i]'(by simpa using hi) = d at hd
   rcases List.mem_cons.mp hd with rfl | hd
   ·decide
   ·have := hw d hd
    simp [this.1, this.2]) (by
   show stT x _ = true
   rw [hg, List.getElem?_append_right (by simp)]
   simp [hc])
 refine ⟨ns.map fun m => ((dn.length + m : Nat) : Int), ?_, fun m hm => ?_⟩
 ·unfold rgL
  rw [hT, List.filter_map, List.map_map]
  have : (stT x ∘ fun i : Nat => PV.int ((dn.length : Int) + (i : Nat))) = fun i => stT x (.int ((dn.length : Int) + (i : Nat))) := rfl
  rw [this, h1]
  simp
 ·obtain ⟨k, hk, rfl⟩ := List.mem_map.mp hm
  have := h2 k hk
  lia
noncomputable def bs192 : List Stmt := getEl (l := getEl (l := getEl (l := getEl (l := bw192.drop 1) rfl) rfl) rfl) rfl
theorem prS_eq (r : Pr) : prS r = 32 :: (r.key.cps.toList ++ ([61, 34] ++ (escA r.val.cps.toList ++ [34]))) := by
 have e : ∀ a b : Str, (a ++ b).cps.toList = a.cps.toList ++ b.cps.toList := fun a b => by show (a.cps ++ b.cps).toList = _; simp
 unfold prS atS
 rw [e, e, e, e, e, cps_Sl]
 have h1 : (Str.empty).cps.toList = [] := by decide +kernel
 have h2 : (" " : Str).cps.toList = [32] := by decide +kernel
 have h3 : ("=\"" : Str).cps.toList = [61, 34] := by decide +kernel
 have h4 : ("\"" : Str).cps.toList = [34] := by decide +kernel
 rw [h1, h2, h3, h4]
 simp [Pr.pv]
section
variable {c : Cx} {σ : Store} {L ea na la : Addr} {N : Store -> Prop} {R : PV -> Store -> Prop} {g1 g2 g3 g4 g5 g6 g7 g8 q : Option PV} {x : Str} {ad : List Addr} {ev : List Ev} {nm : List (Px × Bool)} {lv : List RL}
theorem rd_pre (F : Fm (callEnvC fd192 L 192) L NR) {dn r : List Nat} {p : Px} {b : Bool} {rs : List Pr} {S : RS}
  (hx : x = Sl (dn ++ ((Tk.start p b rs).s ++ r))) (hz : x.length <= 1000000)
  (h : ∀ i, Xs c (callEnvC fd192 L 192) bs192 (rS L ea na la dn.length (some (.int i)) g2 g3 g4 g5 g6 g7 g8 x q S ad σ) (fun σ' => Xs c (callEnvC fd192 L 192) (bw192.drop 2) σ' N R) R) :
  Xs c (callEnvC fd192 L 192) bw192 (rS L ea na la dn.length g1 g2 g3 g4 g5 g6 g7 g8 x q S ad σ) N R := by
 obtain ⟨d, t, hw⟩ := wn_ne p b
 have hdm := wn_mem (p := p) (b := b) (d := d) (by rw [hw]; exact .head _)
 have hm : 62 ∈ (Tk.start p b rs).s := by simp [Tk.s]
 obtain ⟨u, r', e, hu⟩ := split_first hm
 have h0 : u.head? = some 60 := by
  cases u with
  | nil => simp [Tk.s] at e
  | cons a u => simp [Tk.s] at e; simp [e.1]
 have hxl : x.length = dn.length + ((Tk.start p b rs).s.length + r.length) := by rw [hx, len_Sl]; simp
 have hsl : 3 <= (Tk.start p b rs).s.length := by simp [Tk.s, hw]; lia
 have hc1 : x.cps.toList[((dn.length : Int)).toNat]? = some 60 := by
  rw [hx, Int.toNat_natCast]
  exact sl_at dn _ _
 have hc2 : x.cps.toList[((dn.length : Int) + 1).toNat]? = some d := by
  have e : ((dn.length : Int) + 1).toNat = (dn ++ [60]).length := by simp <;> lia
  rw [hx, e, show dn ++ ((Tk.start p b rs).s ++ r) = (dn ++ [60]) ++ (d :: (t ++ (rs.flatMap prS ++ [62]) ++ r)) by simp [Tk.s, hw]]
  exact sl_at _ _ _
 refine rd_index F (u := u) (t := 62) (r := r' ++ r) (by rw [hx, e]; simp) hz hu h0 rfl ?_
 refine Xs.cons (X.iff (T.cmp (E.sub (E.cell rfl rfl rfl (.tail _ (.head _)) (E.n F (It.str (by lia) (by lia) hc1 (E.str (Cmp.ne_str (Tr.bool ?_)))))))))
 rw [show ((Sl [60] : Str) != ("<" : Str)) = !decide (60 = 60) from beq_S1 60 60, if_neg (by simp)]
 refine Xs.cons (X.iff (T.cmp (E.sub (E.cell rfl rfl rfl (.tail _ (.head _)) (E.binop (E.n F (E.int (Bin.add_int (It.str (by lia) (by lia) hc2 (E.str (Cmp.eq_str (Tr.bool ?_)))))))))) ))
 rw [show ((Sl [d] : Str) == ("!" : Str)) = decide (d = 33) from beq_S1' d 33, if_neg (by simp [hdm.2.2.2.2.2.1])]
 refine Xs.cons (X.iff (T.cmp (E.sub (E.cell rfl rfl rfl (.tail _ (.head _)) (E.binop (E.n F (E.int (Bin.add_int (It.str (by lia) (by lia) hc2 (E.str (Cmp.eq_str (Tr.bool ?_)))))))))) ))
 rw [show ((Sl [d] : Str) == ("?" : Str)) = decide (d = 63) from beq_S1' d 63, if_neg (by simp [hdm.2.2.2.2.2.2.2])]
 refine Xs.cons (X.iff (T.cmp (E.sub (E.cell rfl rfl rfl (.tail _ (.head _)) (E.binop (E.n F (E.int (Bin.add_int (It.str (by lia) (by lia) hc2 (E.str (Cmp.eq_str (Tr.bool ?_)))))))))) ))
 rw [show ((Sl [d] : Str) == ("/" : Str)) = decide (d = 47) from beq_S1' d 47, if_neg (by simp [hdm.2.2.2.2.2.2.1])]
 exact (h _).mono (fun σ' hh => Xs.nil (Xs.nil (Xs.nil hh))) fun _ _ hh => hh
end
theorem in_blank (ch : Nat) : (!(Builtin.Str.occurrences (" >" : Str) (Sl [ch]) 0 (" >" : Str).length 1).isEmpty) = decide (ch ∈ [32, 62]) := by
 have := StrLaws.found_one (" >" : Str) ch
 rw [show (" >" : Str).cps.toList = [32, 62] by decide +kernel] at this
 exact this
section
variable {c : Cx} {σ : Store} {L ea na la : Addr} {N : Store -> Prop} {R : PV -> Store -> Prop} {g1 g2 g3 g4 g5 g6 g7 g8 q : Option PV} {x : Str} {ad : List Addr} {ev : List Ev} {nm : List (Px × Bool)} {lv : List RL}
theorem bs_a (B : Base c) (F : Fm (callEnvC fd192 L 192) L NR) {dn r : List Nat} {p : Px} {b : Bool} {a : Addr} {l : RL} {ch : Nat} (hal : ad.length = lv.length)
  (hx : x = Sl (dn ++ (60 :: (wn p b).cps.toList ++ (ch :: r)))) (hc : ch = 32 \/ ch = 62) (hz : x.length <= 1000000) (hl : l.length <= 1000)
  (h : ∀ pa da, Xs c (callEnvC fd192 L 192) (bs192.drop 2) ((L, .loc NR [some (.raw (.ref ea)), some (.raw (.ref na)), some (.raw (.ref la)), some (.int dn.length), some (.int ((dn.length + ((wn p b).cps.toList.length + 1) : Nat) : Int)), some (.str (wn p b)), some (.raw (.ref pa)), g4, g5, g6, g7, g8]) :: (da, .dict (rlD l)) :: (pa, .list []) :: rdT L ea na la x (some (.raw (.ref da))) ⟨ev, nm, lv ++ [l]⟩ (ad ++ [a]) σ) N R) :
  Xs c (callEnvC fd192 L 192) bs192 (rS L ea na la dn.length g1 g2 g3 g4 g5 g6 g7 g8 x q ⟨ev, nm, lv ++ [l]⟩ (ad ++ [a]) σ) N R := by
 obtain ⟨w, hw⟩ : ∃ w, w = (wn p b).cps.toList := ⟨_, rfl⟩
 have hwe : wn p b = Sl w := by rw [hw]; exact Str_eta _
 have hwm : ∀ d ∈ w, d ≠ 32 /\ d ≠ 62 := fun d h => by rw [hw] at h; exact ⟨(wn_mem h).2.1, (wn_mem h).2.2.1⟩
 rw [<- hw] at hx h
 have hxl : x.length = dn.length + (w.length + 1 + (1 + r.length)) := by rw [hx, len_Sl]; simp <;> lia
 obtain ⟨nn, hn1, hn2⟩ := rg_first hx hwm hc
 refine Xs.cons (X.nm F ?_)
 refine E.post (E.call (E.globB (v := .builtin "min") B rfl rfl rfl rfl (by kernel_rfl) rfl ⟨_, rfl, ?_⟩))
 refine Es.cons (E.compF (ns := ["k"]) (cl := [("text", L + 1)]) (CompOk.of rfl (by decide +kernel) rfl (by kernel_rfl) (by decide) rfl) fun FC => ?_) rfl
 refine E.call (E.globB (v := .type "range") B rfl rfl rfl rfl (by kernel_rfl) rfl ⟨_, rfl, Es.cons (E.n F ?_) rfl⟩)
 refine Es.cons (E.call (E.globB (v := .builtin "len") B rfl rfl rfl rfl (by kernel_rfl) rfl ⟨_, rfl, Es.cons (E.cell rfl rfl rfl (.tail _ (.head _)) (Es.nil ⟨.builtin, Ca.len_str (le_sz (by lia)) ?_⟩)) rfl⟩)) rfl
 refine Es.nil ⟨.type, Ca.range2 fun rg => ?_⟩
 refine ⟨rgL (dn.length : Int) (x.length : Int), _, stT x, id, Itb.range (memR _ (.head _)) (by lia) (by lia) (by lia) (by lia), fun _ _ => trivial, ?_, ?_, ?_⟩
 ·unfold rgL; rw [lnM, List.length_range]; exact le_sz (by lia)
 ·intro F' β' hb C q' vs hq hvs
  obtain ⟨v1, rfl⟩ := len1 hvs
  obtain ⟨i, hi, rfl⟩ := List.mem_map.mp hq
  have hi' : i < x.cps.toList.length - dn.length := Int.toNat_sub x.length dn.length ▸ List.mem_range.mp hi
  have hi2 := Nat.add_lt_of_lt_sub' hi'
  have F2 := FC C
  have hk : ((dn.length : Int) + (i : Nat)).toNat = dn.length + i := rfl
  have hg : x.cps.toList[((dn.length : Int) + (i : Nat)).toNat]? = some (x.cps.toList[dn.length + i]'hi2) := by rw [hk]; exact List.getElem?_eq_getElem _
  have hst : stT x (.int ((dn.length : Int) + (i : Nat))) = decide ((x.cps.toList[dn.length + i]'hi2) ∈ [32, 62]) := by
   unfold stT
   simp only [hg]
  generalize x.cps.toList[dn.length + i]'hi2 = ch' at hg hst
  refine Asg.name F2.lo rfl .head ⟨_, rfl, rfl, fun V => tests_one (T.cmp ?_) V, fun _ => E.nm F2 (p := .int ((dn.length : Int) + (i : Nat))) (by trivial) ⟨rfl, rfl⟩⟩
  refine E.sub (E.cell rfl rfl rfl (.tail _ (.tail _ (.head _))) (E.n F2 (It.str (k := (dn.length : Int) + (i : Nat)) (Int.natCast_nonneg (dn.length + i)) (nE (Nat.le_of_lt hi2) hz) hg (E.str (Cmp.in_str (Tr.bool ⟨?_, rfl⟩))))))
  rw [hst]
  exact in_blank _
 ·rw [hn1]
  refine Es.nil ⟨.builtin, Ca.min .lst hn2 ?_⟩
  refine ⟨_, List.sublist_append_left _ _, ?_⟩
  refine ⟨_, _, _, rfl, by trivial, ?_⟩
  have hsl : Txt.slice x (some ((dn.length : Int) + 1)) (some ((dn.length + (w.length + 1) : Nat) : Int)) = wn p b := by
   rw [hx, show dn ++ (60 :: w ++ (ch :: r)) = (dn ++ [60]) ++ (w ++ (ch :: r)) by simp, sl_mid (dn ++ [60]) w (ch :: r) (by simp <;> lia) (by simp <;> lia), hwe]
  have ela : (ad ++ [a]).map (fun a => PV.raw (.ref a)) = ad.map (fun a => PV.raw (.ref a)) ++ [.raw (.ref a)] := by simp
  have hmem : (a, Cell.dict (rlD l)) ∈ (((ad ++ [a]).zip (lv ++ [l])).map (fun x => (x.1, Cell.dict (rlD x.2))) ++ σ) := by
   rw [List.zip_append hal, List.map_append]
   exact memL _ (memR _ (.head _))
  refine Xs.cons (X.asgT ?_)
  refine E.tuple (Es.cons (E.slStr (E.cell rfl rfl rfl (.tail _ (.head _)) (Pt.some (E.binop (E.n F (E.int (Bin.add_int ⟨_, rfl, Pt.some (E.n F ⟨_, rfl, _, rfl, le_sz (by lia), ?_⟩)⟩)))))) ) rfl)
  rw [hsl]
  refine Es.cons (E.list (Es.nil ⟨le_sz (by show 0 <= 16777216; decide), _, _, rfl, fun pa => ?_⟩)) rfl
  refine Es.cons (E.call (E.globB (v := .type "dict") B rfl rfl rfl rfl (by kernel_rfl) rfl ⟨_, rfl, Es.cons (E.sub (E.n F (E.neg ?_))) rfl⟩)) rfl
  refine It.last (l := ad.map fun a => .raw (.ref a)) (p := .raw (.ref a)) (by rw [<- ela]; exact .tail _ (.tail _ (.tail _ (.tail _ (.tail _ (.tail _ (.head _))))))) ?_
  refine Es.nil ⟨.type, Ca.dictOf2 rfl (.tail _ (.tail _ (.tail _ (.tail _ (.tail _ (.tail _ (.tail _ hmem))))))) (by rw [rlD_len]; exact le_sz (by lia)) fun da => ?_⟩
  refine Es.nil ⟨le_sz (by show 3 <= 16777216; decide), ?_⟩
  refine Asg.tuple (Asg.name F.lo F.loc (by trivial) (Asg.name F.lo F.loc (by trivial) (Asg.cell (cc := L + 2) rfl rfl rfl (.inl ⟨_, rfl⟩) (.tail (.tail (.tail (.tail .head)))) ?_))) rfl
  exact h pa da
end
noncomputable abbrev sS (L ea na la pa da : Addr) (i st : Int) (nn : Str) (g4 g5 g6 g7 g8 : Option PV) (l : RL) (ps : List Pr) (x : Str) (rs : RS) (ad : List Addr) (σ : Store) : Store :=
 (L, .loc NR [some (.raw (.ref ea)), some (.raw (.ref na)), some (.raw (.ref la)), some (.int i), some (.int st), some (.str nn), some (.raw (.ref pa)), g4, g5, g6, g7, g8]) :: (da, .dict (rlD l)) :: (pa, .list (ps.map fun r => pp r.pv)) :: rdT L ea na la x (some (.raw (.ref da))) rs ad σ
section
variable {c : Cx} {σ : Store} {L ea na la pa da : Addr} {N : Store -> Prop} {R : PV -> Store -> Prop} {g1 g2 g3 g4 g5 g6 g7 g8 q : Option PV} {x nn : Str} {ad : List Addr} {S : RS} {i : Int} {l : RL}
theorem bs_b (B : Base c) (hd : c.d < recursionLimit) (F : Fm (callEnvC fd192 L 192) L NR) {dn r : List Nat} {rs : List Pr} (hrs : rs.length <= 7)
  (hx : x = Sl (dn ++ (rs.flatMap prS ++ (62 :: r)))) (hz : x.length <= 1000000)
  (h : ∀ g4 g5, Xs c (callEnvC fd192 L 192) (bs192.drop 3) (sS L ea na la pa da i ((dn.length + (rs.flatMap prS).length : Nat) : Int) nn g4 g5 g6 g7 g8 l rs x S ad σ) N R) :
  Xs c (callEnvC fd192 L 192) (bs192.drop 2) (sS L ea na la pa da i (dn.length : Int) nn g4 g5 g6 g7 g8 l [] x S ad σ) N R := by
 refine Xs.cons (X.while (fun n σ' => ∃ rs1 rs2 g4 g5, rs = rs1 ++ rs2 /\ rs2.length = n /\ σ' = sS L ea na la pa da i ((dn.length + (rs1.flatMap prS).length : Nat) : Int) nn g4 g5 g6 g7 g8 l rs1 x S ad σ) rs.length ⟨[], rs, g4, g5, rfl, rfl, rfl⟩ ?_)
 rintro n _ ⟨rs1, rs2, g4, g5, rfl, rfl, rfl⟩
 cases rs2 with
 | nil =>
  simp only [List.append_nil] at hx h
  have hxl : x.length = dn.length + ((rs1.flatMap prS).length + (1 + r.length)) := by rw [hx, len_Sl]; simp <;> lia
  have hc1 : x.cps.toList[((dn.length + (rs1.flatMap prS).length : Nat) : Int).toNat]? = some 62 := by
   rw [hx, Int.toNat_natCast, <- List.append_assoc, <- List.length_append]
   exact sl_at _ _ _
  refine T.cmp (E.sub (E.cell rfl rfl rfl (.tail _ (.tail _ (.tail _ (.head _)))) (E.n F (It.str (by lia) (by lia) hc1 (E.str (Cmp.eq_str (Tr.bool ?_)))))))
  rw [show ((Sl [62] : Str) == (" " : Str)) = decide (62 = 32) from beq_S1' 62 32, if_neg (by simp)]
  exact h _ _
 | cons r0 rest =>
  obtain ⟨A, hA⟩ : ∃ A, A = dn ++ rs1.flatMap prS := ⟨_, rfl⟩
  obtain ⟨k, hk⟩ : ∃ k, k = r0.key.cps.toList := ⟨_, rfl⟩
  obtain ⟨v, hv⟩ : ∃ v, v = escA r0.val.cps.toList := ⟨_, rfl⟩
  obtain ⟨z, hz'⟩ : ∃ z, z = rest.flatMap prS ++ (62 :: r) := ⟨_, rfl⟩
  have hAl : A.length = dn.length + (rs1.flatMap prS).length := by rw [hA, List.length_append]
  have hk61 : 61 ∉ 32 :: k := fun h => by
   rcases List.mem_cons.mp h with h | h
   ·cases h
   ·rw [hk] at h; exact (key_mem r0 h).1 rfl
  have hv34 : 34 ∉ v := fun h => by rw [hv] at h; exact (escA_mem h).2 rfl
  have hx0 : x = Sl (A ++ (32 :: (k ++ ([61, 34] ++ (v ++ [34]))) ++ z)) := by
   rw [hx, hA, hz', List.flatMap_append, List.flatMap_cons, prS_eq, <- hk, <- hv]
   simp
  have hx1 : x = Sl (A ++ ((32 :: k) ++ ([61, 34] ++ (v ++ [34] ++ z)))) := by rw [hx0]; simp
  have hx2 : x = Sl ((A ++ (32 :: k ++ [61, 34])) ++ (v ++ ([34] ++ z))) := by rw [hx0]; simp
  have hx3 : x = Sl ((A ++ [32]) ++ (k ++ ([61, 34] ++ (v ++ [34] ++ z)))) := by rw [hx0]; simp
  have hxl : x.length = A.length + (k.length + v.length + 4 + z.length) := by rw [hx0, len_Sl]; simp <;> lia
  have hc1 : x.cps.toList[((dn.length + (rs1.flatMap prS).length : Nat) : Int).toNat]? = some 32 := by
   rw [hx0, Int.toNat_natCast, <- hAl]
   exact sl_at _ _ _
  have hps : rs1.length <= 7 := by rw [List.length_append] at hrs; lia
  rw [<- hAl] at hc1 ⊢
  refine T.cmp (E.sub (E.cell rfl rfl rfl (.tail _ (.tail _ (.tail _ (.head _)))) (E.n F (It.str (by lia) (by lia) hc1 (E.str (Cmp.eq_str (Tr.bool ?_)))))))
  rw [show ((Sl [32] : Str) == (" " : Str)) = decide (32 = 32) from beq_S1' 32 32, if_pos (by simp)]
  refine Xs.cons (X.nm F (E.meth (E.cell rfl rfl rfl (.tail _ (.tail _ (.tail _ (.head _)))) (Gm.index (Es.strC (Es.cons (E.n F (Es.nil ⟨.builtin, ?_⟩)) rfl)))) rfl))
  refine Ca.index' hx1 (by decide +kernel) hk61 rfl ⟨_, _, _, rfl, by trivial, ?_⟩
  refine Xs.cons (X.nm F (E.meth (E.cell rfl rfl rfl (.tail _ (.tail _ (.tail _ (.head _)))) (Gm.index (Es.strC (Es.cons (E.binop (E.n F (E.int (Bin.add_int (Es.nil ⟨.builtin, ?_⟩))))) rfl)))) rfl))
  refine Ca.index' hx2 (p' := []) (by decide +kernel) hv34 (by simp <;> lia) ⟨_, _, _, rfl, by trivial, ?_⟩
  refine Xs.cons (X.expr (E.meth (E.n F (Gm.append (.tail _ (.tail _ (.head _))) ?_)) rfl))
  refine Es.cons (E.tuple (Es.cons (E.slStr (E.cell rfl rfl rfl (.tail _ (.tail _ (.tail _ (.head _)))) (Pt.some (E.binop (E.n F (E.int (Bin.add_int ⟨_, rfl, Pt.some (E.n F ⟨_, rfl, _, rfl, le_sz (by lia), ?_⟩)⟩)))))) ) rfl)) rfl
  rw [hx3, sl_mid (A ++ [32]) k _ (by simp <;> lia) (by simp <;> lia), <- hx3]
  refine Es.cons (E.call (E.globK (v := .ref 180) B rfl rfl rfl (by kernel_rfl) ⟨_, rfl, Es.cons (E.slStr (E.cell rfl rfl rfl (.tail _ (.tail _ (.tail _ (.head _)))) (Pt.some (E.binop (E.n F (E.int (Bin.add_int ⟨_, rfl, Pt.some (E.n F ⟨_, rfl, _, rfl, le_sz (by lia), ?_⟩)⟩)))))) ) rfl⟩)) rfl
  rw [hx2, sl_mid (A ++ (32 :: k ++ [61, 34])) v _ (by simp <;> lia) (by simp <;> lia), <- hx2]
  refine Es.nil ⟨.fn B (at180 _), Ca180 B hd (by lia) ?_⟩
  refine Es.nil ⟨le_sz (by show 2 <= 16777216; decide), Es.nil ⟨.builtin, Ca.append (.tail (.tail .head)) (le_sz (by rw [lnM]; lia)) ?_⟩⟩
  refine Xs.cons (X.nm F (E.binop (E.n F (E.int (Bin.add_int ⟨_, _, _, rfl, by trivial, ?_⟩)))))
  have e1 : PV.tup [.str (Sl k), .str (Sl (plainL v))] = pp r0.pv := by
   rw [hv, plain_escA, hk, <- Str_eta, <- Str_eta]; rfl
  have e2 : (((A ++ (32 :: k ++ [61, 34])).length + v.length : Nat) : Int) + 1 = ((dn.length + ((rs1 ++ [r0]).flatMap prS).length : Nat) : Int) := by
   rw [List.flatMap_append, List.flatMap_singleton, prS_eq, <- hk, <- hv]
   simp [-List.length_flatMap] <;> lia
  refine Xs.nil ⟨rest.length, by simp, rs1 ++ [r0], rest, some (.int ((A.length + (32 :: k).length : Nat) : Int)), some (.int (((A ++ (32 :: k ++ [61, 34])).length + v.length : Nat) : Int)), by simp, rfl, ?_⟩
  unfold sS
  rw [List.map_append, <- e2, List.map_singleton, <- e1]
end
section
variable {c : Cx} {σ : Store} {L ea na la pa da : Addr} {N : Store -> Prop} {R : PV -> Store -> Prop} {g1 g2 g3 g4 g5 g6 g7 g8 q : Option PV} {x nn : Str} {ad : List Addr} {S : RS} {i st : Int} {l : RL}
theorem bs_c (F : Fm (callEnvC fd192 L 192) L NR) {rs : List Pr} (hrs : rs.length <= 7) (hl : l.length <= 1000)
  (h : ∀ g6 g7, Xs c (callEnvC fd192 L 192) (bs192.drop 4) (sS L ea na la pa da i st nn g4 g5 g6 g7 g8 (nsAll l rs) rs x S ad σ) N R) :
  Xs c (callEnvC fd192 L 192) (bs192.drop 3) (sS L ea na la pa da i st nn g4 g5 g6 g7 g8 l rs x S ad σ) N R := by
 refine Xs.cons (X.for (E.n F ?_))
 refine ⟨rs.map fun r => pp r.pv, _, fun k σ' => ∃ g6 g7, σ' = sS L ea na la pa da i st nn g4 g5 g6 g7 g8 (nsAll l (rs.take k)) rs x S ad σ, Itb.list (.tail _ (.tail _ (.head _))), ⟨g6, g7, rfl⟩, ?_, ?_, ?_⟩
 ·rintro k _ ⟨g6, g7, rfl⟩
  exact .tail _ (.tail _ (.head _))
 ·rintro Fr β hb k q' _ hq ⟨g6, g7, rfl⟩
  rw [List.getElem?_map] at hq
  obtain ⟨r, hr, rfl⟩ := Option.map_eq_some_iff.mp hq
  have htk : rs.take (k + 1) = rs.take k ++ [r] := by rw [List.take_add_one, hr]; rfl
  have hn : nsAll l (rs.take (k + 1)) = nsPut (nsAll l (rs.take k)) r := by rw [htk]; unfold nsAll; rw [List.foldl_append]; rfl
  have hkl : r.pv.1.length <= 20 := key_len r
  have hll : (nsAll l (rs.take k)).length <= 1007 := by
   have h1 := nsAll_len (rs.take k) l
   have h2 : (rs.take k).length <= rs.length := by rw [List.length_take]; lia
   lia
  refine Asg.tuple (Asg.name F.lo F.loc (by trivial) (Asg.name F.lo F.loc (by trivial) ?_)) rfl
  refine Xs.cons (X.iff (T.cmp (E.slStr (E.nm F (by trivial) (Pt.none (Pt.some (E.int ⟨_, rfl, _, rfl, le_sz (by lia), ?_⟩)))))))
  refine E.str (Cmp.eq_str (Tr.bool ?_))
  rw [show (Txt.slice r.pv.1 Option.none (some 5) == ("xmlns" : Str)) = !r.isAt from key_ns r]
  cases r with
  | «at» p b v =>
   rw [if_neg (by simp [Pr.isAt])]
   refine Xs.nil (Xs.nil ⟨some (.str (Pr.at p b v).pv.1), some (.str (Pr.at p b v).pv.2), ?_⟩)
   rw [hn]
   rfl
  | ns p u =>
   rw [if_pos (by simp [Pr.isAt])]
   refine Xs.cons (X.setitem (E.nm F (by trivial) (E.cell rfl rfl rfl (.tail _ (.tail _ (.tail _ (.tail _ (.head _))))) (E.slStr (E.nm F (by trivial) (Pt.some (E.int ⟨_, rfl, Pt.none ⟨_, rfl, le_sz (by lia), ?_⟩⟩)))))))
   rw [show Txt.slice (Pr.ns p u).pv.1 (some 6) Option.none = pS p from xn_pre p]
   refine SetI.dict (.tail .head) (by rw [rlD_len]; exact le_sz (by lia)) (Xs.nil (Xs.nil ⟨some (.str (Pr.ns p u).pv.1), some (.str (Pr.ns p u).pv.2), ?_⟩))
   rw [hn]
   show _ = sS L ea na la pa da i st nn g4 g5 (some (.str (Pr.ns p u).pv.1)) (some (.str (Pr.ns p u).pv.2)) g8 (rlPut (nsAll l (rs.take k)) (p, u)) rs x S ad σ
   unfold sS
   rw [rlD_put]
   rfl
 ·rintro _ ⟨g6, g7, rfl⟩
  rw [lnM, List.take_length]
  exact h g6 g7
theorem bs_d (B : Base c) (hd : c.d < recursionLimit) (F : Fm (callEnvC fd192 L 192) L NR) {rs : List Pr} (hrs : rs.length <= 7) (hat : ∀ q b v, Pr.at q b v ∈ rs -> q ≠ 0 -> ∃ u, l.lookup q = some u)
  (h : ∀ D, Xs c (callEnvC fd192 L 192) (bs192.drop 5) ((L, .loc NR [some (.raw (.ref ea)), some (.raw (.ref na)), some (.raw (.ref la)), some (.int i), some (.int st), some (.str nn), some (.raw (.ref pa)), g4, g5, g6, g7, some (.raw (.ref D))]) :: (D, .list ((atts l rs).map pp)) :: (da, .dict (rlD l)) :: (pa, .list (rs.map fun r => pp r.pv)) :: rdT L ea na la x (some (.raw (.ref da))) S ad σ) N R) :
  Xs c (callEnvC fd192 L 192) (bs192.drop 4) (sS L ea na la pa da i st nn g4 g5 g6 g7 g8 l rs x S ad σ) N R := by
 refine Xs.cons (X.compF (ns := ["key", "value"]) (cl := [("level", L + 2)]) (CompOk.of rfl (by decide +kernel) rfl (by kernel_rfl) (by decide) rfl) F.lo F.loc fun FC => ?_)
 refine E.n F ?_
 refine ⟨rs.map fun r => pp r.pv, _, prT, prF l, _, fun D => _, _, Itb.list (.tail _ (.tail _ (.head _))), fun σ' hσ => hσ _ (.tail _ (.tail _ (.head _))), by rw [lnM]; exact le_sz (by lia), ?_, rfl, fun D => ⟨by trivial, ?_⟩⟩
 ·intro F' β' hb C q' vs hq hvs
  obtain ⟨v1, v2, rfl⟩ := len2 hvs
  obtain ⟨r, hr, rfl⟩ := List.mem_map.mp hq
  have hkl : r.pv.1.length <= 20 := key_len r
  have F2 := FC C
  have B2 : Base (c.ext F' β') := B.ext hb
  refine Asg.tuple (Asg.name F2.lo rfl .head (Asg.name F2.lo rfl (.tail .head) ⟨_, rfl, rfl, fun V => tests_one (T.cmp (E.slStr (E.nm F2 (by trivial) (Pt.none (Pt.some (E.int ⟨_, rfl, _, rfl, le_sz (by lia), ?_⟩)))))) V, fun ht => ?_⟩)) rfl
  ·exact E.str (Cmp.ne_str (Tr.bool ⟨rfl, rfl⟩))
  ·have ht' : r.isAt = true := by
    have e : prT (pp r.pv) = r.isAt := key_nns r
    rw [<- e]; exact ht
   cases r with
   | ns p u => cases ht'
   | «at» p b v =>
    refine E.tuple (Es.cons (E.call (E.globK (v := .ref 187) B2 rfl rfl rfl (by kernel_rfl) ⟨_, rfl, Es.cons (E.n F2 (Es.cons (E.cell rfl rfl rfl (.tail _ (.tail _ (.tail _ (.tail _ (.tail _ (.head _)))))) (Es.cons (E.str (Es.nil ⟨.fn B2 (at187 _), ?_⟩)) rfl)) rfl)) rfl⟩)) rfl)
    refine Ca187 (p := p) (b := b) (u := res l p) (v := 0) B2 hd (la := da) (l := rlD l) (.tail _ (.tail _ (.head _))) (fun hp => ?_) (fun hp => ?_) ?_
    ·obtain ⟨u, hu⟩ := hat p b v hr hp
     unfold res
     rw [rlD_lookup, if_neg hp, hu]; rfl
    ·unfold res; rw [if_pos hp]
    ·refine Es.cons (E.nm F2 (p := .str (Pr.at p b v).pv.2) (by trivial) (Es.nil ⟨le_sz (by show 2 <= 16777216; decide), ?_, rfl⟩)) rfl
     show _ = PV.tup [.str (fullS l (wn p b)), .str v]
     rw [fullS_wn]
     rfl
 ·rw [atts_pv]
  refine Xs.perm ?_ (h D)
  exact List.Perm.cons _ (List.perm_append_comm (l₁ := [(D, Cell.list ((atts l rs).map pp))]))
end
noncomputable def fl1 {α : Type} : List (List α) -> List α
 | [] => []
 | x :: r => match r with
  | [] => x
  | _ :: _ => x ++ fl1 r
theorem fl1_eq {α : Type} (l : List (List α)) : fl1 l = l.flatten := by
 induction l with
 | nil => rfl
 | cons x r ih =>
  cases r with
  | nil => exact (List.append_nil x).symm
  | cons y r => exact congrArg (x ++ ·) ih
theorem permI {α : Type} (ls : List (List α)) (p : List Nat) (n : Nat) (h : p.isPerm (List.range n) = true) (hn : ls.length = n) : (fl1 (p.map fun i => ls.getD i [])).Perm (fl1 ls) := by
 subst hn
 have e : (List.range ls.length).map (fun i => ls.getD i []) = ls := List.ext_getElem (by simp) fun i h1 h2 => by simp [h2]
 have h1 := (List.isPerm_iff.mp h).map fun i => ls.getD i []
 rw [e] at h1
 rw [fl1_eq, fl1_eq]
 exact h1.flatten
theorem perm9 {α : Type} (L D da pa a b c d e : α) (Z σ : List α) : (D :: pa :: L :: a :: b :: c :: d :: e :: (Z ++ (da :: σ))).Perm (L :: D :: da :: pa :: a :: b :: c :: d :: e :: (Z ++ σ)) :=
 permI [[L], [D], [da], [pa], [a], [b], [c], [d], [e], Z, σ] [1, 3, 0, 4, 5, 6, 7, 8, 9, 2, 10] 11 (by decide +kernel) rfl
theorem srtL_pick (l : List (Str × Str)) : pick (l.map pp) (srtP l.length fun i j => pLt (l.getD i ("", "")) (l.getD j ("", ""))) = (srtL l).map pp := by
 rw [pick_map]; rfl
section
variable {c : Cx} {σ : Store} {L ea na la pa da : Addr} {N : Store -> Prop} {R : PV -> Store -> Prop} {g1 g2 g3 g4 g5 g6 g7 g8 q : Option PV} {x nn : Str} {ad : List Addr} {ev : List Ev} {nm : List (Px × Bool)} {lv : List RL} {i st : Int} {l : RL}
theorem bs_e (B : Base c) (hu : c.u < 8000) (hd : c.d < recursionLimit) (F : Fm (callEnvC fd192 L 192) L NR) {p : Px} {b : Bool} {D : Addr} {as : List (Str × Str)} {Y : List PV} {u u0 : U} (has : as.length <= 4) (hal : ad.length = lv.length) (hp : l.lookup p = some u) (h0 : l.lookup 0 = some u0)
  (hev : ev.length <= 100000) (hnm : nm.length <= 100000) (hlv : lv.length <= 100000)
  (h : ∀ g2 g3 g8, N (rS L ea na la i (some (.int st)) g2 g3 g4 g5 g6 g7 g8 x (some (.raw (.ref da))) ⟨ev ++ [.st (nmS (u, b)) (srtL as)], nm ++ [(p, b)], lv ++ [l]⟩ (ad ++ [da]) σ)) :
  Xs c (callEnvC fd192 L 192) (bs192.drop 5) ((L, .loc NR [some (.raw (.ref ea)), some (.raw (.ref na)), some (.raw (.ref la)), some (.int i), some (.int st), some (.str (wn p b)), some (.raw (.ref pa)), g4, g5, g6, g7, some (.raw (.ref D))]) :: (D, .list (as.map pp)) :: (da, .dict (rlD l)) :: (pa, .list Y) :: rdT L ea na la x (some (.raw (.ref da))) ⟨ev, nm, lv⟩ ad σ)
   (fun σ' => ∃ σ'', σ''.Perm σ' /\ ∃ σ3, σ3.Sublist σ'' /\ N σ3) R := by
 refine Xs.cons (X.expr (E.meth (E.n F (Gm.append (l := ad.map fun a => .raw (.ref a)) (.tail _ (.tail _ (.tail _ (.tail _ (.tail _ (.tail _ (.tail _ (.tail _ (.head _))))))))) (Es.cons (E.cell rfl rfl rfl (.tail _ (.tail _ (.tail _ (.tail _ (.tail _ (.head _)))))) (Es.nil ⟨.builtin, Ca.append (.tail (.tail (.tail (.tail (.tail (.tail (.tail (.tail .head)))))))) (by rw [lnM]; exact le_sz (by lia)) ?_⟩)) rfl))) rfl))
 refine Xs.cons (X.expr (E.meth (E.n F (Gm.append (.tail _ (.tail _ (.tail _ (.tail _ (.tail _ (.tail _ (.tail _ (.head _)))))))) (Es.cons (E.n F (Es.nil ⟨.builtin, Ca.append (.tail (.tail (.tail (.tail (.tail (.tail (.tail .head))))))) (by rw [lnM]; exact le_sz (by show nm.length <= _; lia)) ?_⟩)) rfl))) rfl))
 refine Xs.cons (X.expr (E.meth (E.n F (Gm.append (.tail _ (.tail _ (.tail _ (.tail _ (.tail _ (.tail _ (.head _))))))) ?_)) rfl))
 refine Es.cons (E.tuple (Es.strC (Es.cons (E.tuple (Es.cons (E.call (E.globK (v := .ref 187) B rfl rfl rfl (by kernel_rfl) ⟨_, rfl, ?_⟩)) rfl)) rfl))) rfl
 refine Es.cons (E.n F (Es.cons (E.cell rfl rfl rfl (.tail _ (.tail _ (.tail _ (.tail _ (.tail _ (.head _)))))) (Es.cons (E.sub (E.cell rfl rfl rfl (.tail _ (.tail _ (.tail _ (.tail _ (.tail _ (.head _)))))) (E.str (It.dict (p := .str (uS u0)) (.tail _ (.tail _ (.head _))) ?_ ?_)))) rfl)) rfl)) rfl
 ·have := rlD_lookup l 0
  rw [h0] at this
  exact this
 refine Es.nil ⟨.fn B (at187 _), Ca187 (p := p) (b := b) (u := u) (v := u0) (la := da) (l := rlD l) B hd (.tail _ (.tail _ (.head _))) (fun _ => by rw [rlD_lookup, hp]; rfl) (fun e => by subst e; rw [hp] at h0; exact Option.some.inj h0) ?_⟩
 refine Es.cons (E.call (E.globB (v := .builtin "sorted") B rfl rfl rfl rfl (by kernel_rfl) rfl ⟨_, rfl, Es.cons (E.n F (Es.nil ⟨.builtin, ?_⟩)) rfl⟩)) rfl
 refine Ca.sorted (P := fun l' => l' = as.map pp) (Pp := fun _ pm => pm = srtP as.length fun i j => pLt (as.getD i ("", "")) (as.getD j ("", ""))) hu (Col.list (LV.list (.tail _ (.head _))) (by rw [lnM]; exact le_sz (by lia))) (fun l' hl' => ?_) (fun l' pm hl' hpm hpp => ?_)
 ·subst hl'
  exact Sorts.pairs has
 subst hl' hpm
 rw [srtL_pick]
 refine Es.nil ⟨le_sz (by show 2 <= 16777216; decide), Es.nil ⟨le_sz (by show 2 <= 16777216; decide), Es.nil ⟨.builtin, Ca.append (.tail (.tail (.tail (.tail (.tail (.tail .head)))))) (by rw [lnM]; exact le_sz (by show ev.length <= _; lia)) (Xs.nil ?_)⟩⟩⟩
 have hh := h (some (.str (wn p b))) (some (.raw (.ref pa))) (some (.raw (.ref D)))
 refine ⟨_, ?_, _, List.sublist_append_right [(D, Cell.list (as.map pp)), (pa, Cell.list Y)] _, hh⟩
 unfold rS rdT
 rw [app_ev, List.zip_append hal, List.map_append, List.map_append, List.map_append]
 generalize hZ : List.map (fun x => (x.1, Cell.dict (rlD x.2))) (ad.zip lv) = Z
 simp only [List.map_cons, List.map_nil, List.zip_cons_cons, List.zip_nil_right, List.cons_append, List.nil_append, List.append_assoc]
 exact perm9 _ _ _ _ _ _ _ _ _ _ _
end
section
variable {c : Cx} {σ : Store} {L ea na la : Addr} {N : Store -> Prop} {R : PV -> Store -> Prop} {g1 g2 g3 g4 g5 g6 g7 g8 q : Option PV} {x : Str} {ad : List Addr} {ev : List Ev} {nm : List (Px × Bool)} {lv : List RL}
theorem rd_start (B : Base c) (hu : c.u < 8000) (hd : c.d < recursionLimit) (F : Fm (callEnvC fd192 L 192) L NR) {dn r : List Nat} {p : Px} {b : Bool} {rs : List Pr} {a : Addr} {l : RL} {u u0 : U} (hal : ad.length = lv.length)
  (hrs : rs.length <= 7) (has : (atts (nsAll l rs) rs).length <= 4) (hl : l.length <= 1000) (hp : (nsAll l rs).lookup p = some u) (h0 : (nsAll l rs).lookup 0 = some u0)
  (hat : ∀ q b v, Pr.at q b v ∈ rs -> q ≠ 0 -> ∃ u, (nsAll l rs).lookup q = some u)
  (hx : x = Sl (dn ++ ((Tk.start p b rs).s ++ r))) (hz : x.length <= 1000000) (hev : ev.length <= 100000) (hnm : nm.length <= 100000) (hlv : lv.length <= 10000)
  (h : ∀ g1 g2 g3 g4 g5 g6 g7 g8 da, N (rS L ea na la ((dn.length + (Tk.start p b rs).s.length : Nat) : Int) g1 g2 g3 g4 g5 g6 g7 g8 x (some (.raw (.ref da))) ⟨ev ++ [.st (nmS (u, b)) (srtL (atts (nsAll l rs) rs))], nm ++ [(p, b)], lv ++ [l] ++ [nsAll l rs]⟩ (ad ++ [a] ++ [da]) σ)) :
  Xs c (callEnvC fd192 L 192) bw192 (rS L ea na la dn.length g1 g2 g3 g4 g5 g6 g7 g8 x q ⟨ev, nm, lv ++ [l]⟩ (ad ++ [a]) σ) N R := by
 refine rd_pre F hx hz fun i1 => ?_
 obtain ⟨w, hw⟩ : ∃ w, w = (wn p b).cps.toList := ⟨_, rfl⟩
 have hxd : x = Sl ((dn ++ 60 :: w) ++ (rs.flatMap prS ++ (62 :: r))) := by rw [hx, hw]; simp [Tk.s]
 obtain ⟨ch, r', hc, hr'⟩ : ∃ ch r', (ch = 32 \/ ch = 62) /\ rs.flatMap prS ++ (62 :: r) = ch :: r' := by
  cases rs with
  | nil => exact ⟨62, r, .inr rfl, rfl⟩
  | cons r0 rest => rw [List.flatMap_cons, prS_eq]; exact ⟨32, _, .inl rfl, rfl⟩
 have hsl : (Tk.start p b rs).s.length = (w.length + 1) + ((rs.flatMap prS).length + 1) := by
  show (60 :: ((wn p b).cps.toList ++ (rs.flatMap prS ++ [62]))).length = _
  rw [<- hw]
  simp [-List.length_flatMap] <;> lia
 have hdl : (dn ++ 60 :: w).length = dn.length + (w.length + 1) := by simp
 refine bs_a B F (p := p) (b := b) (ch := ch) (r := r') hal (by rw [<- hw, hxd, hr']; simp) hc hz hl fun pa da => ?_
 rw [<- hw, <- hdl]
 refine bs_b B hd F (l := l) hrs hxd hz fun g4 g5 => ?_
 refine bs_c F hrs hl fun g6 g7 => ?_
 refine bs_d B hd F hrs hat fun D => ?_
 refine (bs_e B hu hd F (p := p) (b := b) has (by simp [hal]) hp h0 hev hnm (by simp; lia) (N := fun σ' => Xs c (callEnvC fd192 L 192) (bw192.drop 2) σ' N R) fun g2 g3 g8 => ?_).mono ?_ fun _ _ hh => hh
 ·refine Xs.cons (X.nm F (E.binop (E.n F (E.int (Bin.add_int ⟨_, _, _, rfl, by trivial, Xs.nil ?_⟩)))))
  have e1 : (((dn ++ 60 :: w).length + (rs.flatMap prS).length : Nat) : Int) + 1 = ((dn.length + (Tk.start p b rs).s.length : Nat) : Int) := by rw [hsl, hdl]; lia
  rw [e1]
  exact h _ _ _ _ _ _ _ _ _
 ·rintro σ' ⟨σ1, hp1, σ2, hs2, hX⟩
  exact Xs.perm hp1 (Xs.drop hs2 hX)
end
theorem tk_head {t : Tk} (h : t.isText = false) : ∃ z, t.s = 60 :: z := by
 cases t with
 | text s => cases h
 | comment s => exact ⟨_, rfl⟩
 | pi s => exact ⟨_, rfl⟩
 | start p b rs => exact ⟨_, rfl⟩
 | stop p b => exact ⟨_, rfl⟩
theorem esc_ne {s : List Nat} (h : s ≠ []) : escC s ≠ [] := fun e => by
 have hle := escC_len s
 rw [e] at hle
 exact h (List.length_eq_zero_iff.mp (by simpa using hle.2))
theorem step_ne {r r' : RS} {t : Tk} (h : Step r t r') : 0 < t.s.length := by
 cases h with
 | text s hs => exact List.length_pos_iff.mpr (esc_ne hs)
 | _ => exact Nat.zero_lt_succ _
structure RB (rs : RS) : Prop where
 nm : rs.nm.length <= rs.ev.length
 lv : rs.lv.length <= rs.ev.length + 1
inductive Wh (L ea na la : Addr) (x : Str) (ts : List Tk) (rf : RS) (σ : Store) (n : Nat) (σ' : Store) : Prop
 | mk (dn : List Nat) (rest : List Tk) (rs : RS) (ad : List Addr) (q : Option PV) (g1 g2 g3 g4 g5 g6 g7 g8 : Option PV) (e : dn ++ rest.flatMap Tk.s = ts.flatMap Tk.s) (r : Run rs rest rf) (l : rest.length = n) (a : ad.length = rs.lv.length) (b : RB rs) (z : rs.ev.length + n <= 1000) (s : σ' = rS L ea na la (dn.length : Int) g1 g2 g3 g4 g5 g6 g7 g8 x q rs ad σ) : Wh L ea na la x ts rf σ n σ'
theorem RB.step {r r' : RS} {t : Tk} (b : RB r) (h : Step r t r') : RB r' /\ r'.ev.length = r.ev.length + 1 := by
 obtain ⟨b1, b2⟩ := b
 cases h <;> (simp at b1 b2; refine ⟨⟨?_, ?_⟩, ?_⟩ <;> simp <;> lia)
noncomputable abbrev rs0 : RS := ⟨[], [], [[(0, 0), (1, 1)]]⟩
theorem perm7 {α : Type} (L la da na ea a b : α) (σ : List α) : (L :: a :: b :: ea :: na :: la :: da :: σ).Perm (L :: la :: da :: na :: ea :: a :: b :: σ) :=
 permI [[L], [la], [da], [na], [ea], [a], [b], σ] [0, 5, 6, 4, 3, 1, 2, 7] 8 (by decide +kernel) rfl
section
variable {c : Cx} {σ : Store} {Q : PV -> Store -> Prop}
set_option tactic.hygienic true in
theorem rd_body (B : Base c) (hu : c.u < 8000) (hd : c.d < recursionLimit) {L ea na la : Addr} (F : Fm (callEnvC fd192 L 192) L NR) {ts : List Tk} {rf : RS} {x : Str} {R : PV -> Store -> Prop} (hx : x = Sl (ts.flatMap Tk.s)) (hz : x.length <= 1000000)
  {dn : List Nat} {t : Tk} {rest : List Tk} {rs : RS} {ad : List Addr} {q g1 g2 g3 g4 g5 g6 g7 g8 : Option PV} (he : dn ++ (t :: rest).flatMap Tk.s = ts.flatMap Tk.s) (hr : Run rs (t :: rest) rf) (hal : ad.length = rs.lv.length) (hb : RB rs) (hn : rs.ev.length + (rest.length + 1) <= 1000) :
  Xs c (callEnvC fd192 L 192) bw192 (rS L ea na la (dn.length : Int) g1 g2 g3 g4 g5 g6 g7 g8 x q rs ad σ) (fun σ₂ => ∃ m, m < rest.length + 1 /\ Wh L ea na la x ts rf σ m σ₂) R := by
 cases hr with
 | cons hs hnt hr' =>
  have hb' := hb.step hs
  have hx' : x = Sl (dn ++ (t.s ++ rest.flatMap Tk.s)) := by rw [hx, <- he, List.flatMap_cons]
  have fin : ∀ {r' : RS} {ad' : List Addr} {q' g1 g2 g3 g4 g5 g6 g7 g8 : Option PV}, Run r' rest rf -> ad'.length = r'.lv.length -> RB r' -> r'.ev.length = rs.ev.length + 1 ->
    ∃ m, m < rest.length + 1 /\ Wh L ea na la x ts rf σ m (rS L ea na la ((dn.length + t.s.length : Nat) : Int) g1 g2 g3 g4 g5 g6 g7 g8 x q' r' ad' σ) :=
   fun {r' ad' q' g1 g2 g3 g4 g5 g6 g7 g8} hr hl hB hev => ⟨rest.length, Nat.lt_succ_self _, dn ++ t.s, rest, r', ad', q', g1, g2, g3, g4, g5, g6, g7, g8, by rw [<- he, List.flatMap_cons, List.append_assoc], hr, rfl, hl, hB, by rw [hev]; lia, by rw [List.length_append]⟩
  cases hs with
  | text s hs =>
   obtain ⟨t', ts', rfl, ht'⟩ := hnt rfl
   obtain ⟨z, hz'⟩ := tk_head ht'
   rw [List.flatMap_cons, hz'] at hx'
   exact rd_text B hd F (r := z ++ ts'.flatMap Tk.s) hs (by rw [hx']; simp [Tk.s]) hz (by show _ <= _; simp at hn; lia) (fin hr' hal hb'.1 hb'.2)
  | comment s => exact rd_comment B hd F hx' hz (by simp at hn; lia) (fin hr' hal hb'.1 hb'.2)
  | pi s => exact rd_pi B hd F hx' hz (by simp at hn; lia) fun g => fin hr' hal hb'.1 hb'.2
  | start p b rs h1 h2 h3 h4 h5 h6 =>
   rename_i ev nm lv l u u0
   obtain ⟨ad', a, rfl⟩ : ∃ ad' a, ad = ad' ++ [a] := by
    rcases List.eq_nil_or_concat ad with rfl | ⟨ad', a, rfl⟩
    ·simp at hal
    ·exact ⟨ad', a, by simp⟩
   have b1 := hb.nm
   have b2 := hb.lv
   simp at b1 b2 hn hal
   exact rd_start B hu hd F (a := a) hal h1 h2 h3 h4 h5 h6 hx' hz (by lia) (by lia) (by lia) fun g1 g2 g3 g4 g5 g6 g7 g8 da => fin hr' (by simp [hal]) hb'.1 hb'.2
  | stop p b h1 h2 =>
   rename_i ev nm lv l u u0
   obtain ⟨ad', a, rfl⟩ : ∃ ad' a, ad = ad' ++ [a] := by
    rcases List.eq_nil_or_concat ad with rfl | ⟨ad', a, rfl⟩
    ·simp at hal
    ·exact ⟨ad', a, by simp⟩
   have b1 := hb.nm
   have b2 := hb.lv
   simp at b1 b2 hn hal
   exact rd_stop B hd F (a := a) hal h1 h2 hx' hz (by lia) (by lia) (by lia) fun g => fin hr' hal hb'.1 hb'.2
theorem Ca192 (B : Base c) (hu : c.u + 3 < 8000) (hd : c.d + 1 < recursionLimit) {ts : List Tk} {rf : RS} (hr : Run rs0 ts rf) (hz : (ts.flatMap Tk.s).length <= 1000000) (hn : ts.length <= 1000) (h : ∀ a, Q (.raw (.ref a)) ((a, .list (rf.ev.map evP)) :: σ)) :
  Ca c (.ref 192) [.str (Sl (ts.flatMap Tk.s))] σ Q := by
 refine Ca.fnC (x1 := "text") (x2 := "level") (ps := ["text"]) (pvs' := [.str (Sl (ts.flatMap Tk.s))]) B (at192 _) rfl rfl rfl rfl rfl (fun h => by rfl) (fun L => by rfl) (cd192 _) (by lia) NR (by decide +kernel) (by decide)
  (fun s V vals _ hv => ⟨vals, by obtain ⟨v, _, rfl, _, hv⟩ := hv.inv_cons; rw [hv.inv_nil]; exact BindsTo.of_eq rfl, hv⟩) rfl fun L F B' => ?_
 rw [show List.replicate NR.length (none : Option PV) = [none, none, none, none, none, none, none, none, none, none, none, none] from rfl]
 refine Stores.cell rfl rfl rfl (.inr ⟨_, rfl⟩) (.tail .head) ?_
 show Xs _ _ bd192 _ _ _
 refine Xs.cons ?_
 show X _ _ (.Assign [.Tuple [.Name "events" _, .Name "names" _, .Name "levels" _, .Name "at" _] _ _] (.Tuple [.List [] _, .List [] _, .List [.Dict [some (.Constant (.str "") _ _), some (.Constant (.str "xml") _ _)] [.Constant (.str "") _ _, .Constant (.str "http://www.w3.org/XML/1998/namespace") _ _] _] _, .Constant (.int 0) _ _] _ _) _) _ _ _
 refine (X.asgT ?_ (by kernel_rfl) (by kernel_rfl) : X _ _ _ _ _ _)
 refine (E.tuple ?_ : E _ _ _ _ _)
 refine (Es.cons ?_ (by kernel_rfl) : Es _ _ _ _ _ _)
 refine (E.list (Es.nil ⟨le_sz (by show 0 <= 16777216; decide), _, _, rfl, fun ea => ?_⟩) : E _ _ _ _ _)
 refine (Es.cons ?_ (by kernel_rfl) : Es _ _ _ _ _ _)
 refine (E.list (Es.nil ⟨le_sz (by show 0 <= 16777216; decide), _, _, rfl, fun na => ?_⟩) : E _ _ _ _ _)
 refine (Es.cons ?_ (by kernel_rfl) : Es _ _ _ _ _ _)
 refine (E.list ?_ : E _ _ _ _ _)
 refine (Es.cons ?_ (by kernel_rfl) : Es _ _ _ _ _ _)
 refine (E.dictC2 (x1 := "") (x2 := "xml") rfl (by decide) (fun da => ?_) : E _ _ _ _ _)
 refine Es.nil ⟨le_sz (by show 1 <= 16777216; decide), _, _, rfl, fun la => ?_⟩
 refine (Es.cons ?_ (by kernel_rfl) : Es _ _ _ _ _ _)
 refine (E.int ?_ : E _ _ _ _ _)
 refine Es.nil ⟨le_sz (by show 4 <= 16777216; decide), ?_⟩
 refine Asg.tuple (Asg.name F.lo F.loc (by trivial) (Asg.name F.lo F.loc (by trivial) (Asg.name F.lo F.loc (by trivial) (Asg.name F.lo F.loc (by trivial) ?_)))) rfl
 refine Xs.perm (perm7 _ _ _ _ _ _ _ _) ?_
 refine Xs.cons (X.while (fun n σ' => Wh L ea na la (Sl (ts.flatMap Tk.s)) ts rf σ n σ') ts.length ⟨[], ts, rs0, [da], _, _, _, _, _, _, _, _, _, rfl, hr, rfl, rfl, ⟨Nat.le_refl _, Nat.le_refl _⟩, by simpa using hn, rfl⟩ ?_)
 intro n σ' hI
 obtain ⟨dn, rest, rs, ad, q, g1, g2, g3, g4, g5, g6, g7, g8, he, hr, rfl, hal, hb, hev, rfl⟩ := hI
 have hlt : (Sl (ts.flatMap Tk.s)).length = dn.length + (rest.flatMap Tk.s).length := by rw [len_Sl, <- he, List.length_append]
 refine T.cmp (E.n F (E.call (E.globB (v := .builtin "len") B' rfl rfl rfl rfl (by kernel_rfl) rfl ⟨_, rfl, Es.cons (E.cell rfl rfl rfl (.tail _ (.head _)) (Es.nil ⟨.builtin, Ca.len_str (by rw [len_Sl]; exact le_sz (by lia)) (Cmp.lt_int (Tr.bool ?_))⟩)) rfl⟩)))
 cases rest with
 | cons t rest =>
  have hpos : 0 < t.s.length := by
   cases hr with
   | cons hs _ _ => exact step_ne hs
  rw [hlt, if_pos (by rw [List.flatMap_cons, List.length_append]; simp; lia)]
  exact rd_body B' hu hd F rfl (by rw [len_Sl]; exact hz) he hr hal hb hev
 | nil =>
 rw [hlt, if_neg (by simp)]
 cases hr
 refine Xs.cons (X.return (E.n F ⟨(ea, .list (rf.ev.map evP)) :: σ, ?_, h ea⟩))
 exact .cons _ (.cons _ (.cons _ (.cons_cons _ (.cons _ (.cons _ (List.sublist_append_right _ _))))))
end
noncomputable abbrev NW : List Str := ["script", "xml", "xs", "first", "bare", "own", "prefixes", "tags", "keys", "out", "due", "path", "target", "moves", "move", "rest", "piece", "uris", "tag", "attrs", "k", "seed", "name", "scope", "joined", "kind", "what"]
noncomputable def fd197 : FuncData := getFd (a := 197) rfl
noncomputable def bd197 : List Stmt := getBody (fd := fd197) rfl
theorem at197 (P : Params) : FnAt P 197 fd197 := by kernel_rfl
theorem ok197 : FnOk fd197 ["script"] (NW.drop 1) bd197 := ⟨rfl, rfl, rfl, rfl, by decide +kernel, by decide, by decide +kernel⟩
theorem cd197 (P : Params) : codeIn (KK P) fd197.code fd197.qualname = true := by kernel_rfl
noncomputable def tagsU (bare : Bool) : List U := [1, 2, 3, 4, 5, if bare then 0 else 3]
noncomputable def keysU (bare : Bool) : List U := [0, 1, 2, 3, 4, if bare then 5 else 0]
noncomputable def ownU : List U := [3, 4, 5]
noncomputable def prefP (bare : Bool) : List (List Px) := [[3, 4], [5, 6], [if bare then 7 else 0, 8]]
noncomputable abbrev uL (l : List U) : PV := .lst (l.map fun u => .str (uS u))
noncomputable abbrev pL (l : List (List Px)) : PV := .lst (l.map fun r => .lst (r.map fun p => .str (pS p)))
section
variable {c : Cx} {σ : Store} {L : Addr} {N : Store -> Prop} {R : PV -> Store -> Prop}
theorem uL_tags (b : Bool) : [PV.str (uS 1), .str (uS 2), .str "u", .str "v", .str "w", .str (if b = true then "" else "u")] = (tagsU b).map fun u => .str (uS u) := by cases b <;> rfl
theorem uL_keys (b : Bool) : [PV.str "", .str (uS 1), .str (uS 2), .str "u", .str "v", .str (if b = true then "w" else "")] = (keysU b).map fun u => .str (uS u) := by cases b <;> rfl
theorem pL_pref (b : Bool) : [PV.lst [.str "p", .str "q"], .lst [.str "b", .str "c"], .lst [.str (if b = true then "e" else ""), .str "d"]] = (prefP b).map fun r => .lst (r.map fun p => .str (pS p)) := by cases b <;> rfl
theorem E.ifStr {env : Env} {σ : Store} {Q : PV -> Store -> Prop} {x y z : Str} {b : Bool} {k1 k2 : Nat} {p1 p2 p3 p4 : Pos} (h : E c env (.Name z p1) σ (fun p σ' => p = .bool b /\ σ' = σ)) (hq : Q (.str (if b = true then x else y)) σ) :
  E c env (.IfExp (.Name z p1) (.Constant (.str x) k1 p2) (.Constant (.str y) k2 p3) p4) σ Q := E.ifexp (T.val (E.mono h fun p σ' hq1 => by
   obtain ⟨e1, e2⟩ := hq1
   subst e1 e2
   refine Tr.bool ?_
   cases b
   ·exact E.str hq
   ·exact E.str hq))
theorem law_pre1 (B : Base c) (F : Fm (callEnv fd197 L 197) L NW) {ns : List Int} (hn : ns.length <= 100)
  (h : ∀ oa pa ua, Xs c (callEnv fd197 L 197) (bd197.drop 6) ((L, .loc NW [some (.lst (ns.map .int)), some (.str (uS 1)), some (.str (uS 2)), some (.int (ns.take 1).sum), some (.bool ((ns.take 1).sum / 2 % 2 == 1)), some (uL ownU), some (pL (prefP ((ns.take 1).sum / 2 % 2 == 1))), some (uL (tagsU ((ns.take 1).sum / 2 % 2 == 1))), some (uL (keysU ((ns.take 1).sum / 2 % 2 == 1))),
   some (.raw (.ref oa)), some (.raw (.ref ua)), some (.raw (.ref pa)), none, none, none, none, none, none, none, none, none, none, none, none, none, none, none]) :: (pa, .list []) :: (ua, .list []) :: (oa, .list []) :: σ) N R) :
  Xs c (callEnv fd197 L 197) (bd197.drop 1) ((L, .loc NW [some (.lst (ns.map .int)), some (.str (uS 1)), some (.str (uS 2)), none, none, none, none, none, none, none, none, none, none, none, none, none, none, none, none, none, none, none, none, none, none, none, none]) :: σ) N R := by
 refine Xs.cons (X.nm F ?_)
 refine E.call (E.globB (v := .builtin "sum") B rfl rfl rfl rfl (by kernel_rfl) rfl ⟨_, rfl, Es.cons (E.slL (E.n F (Pt.none (Pt.some (E.int ⟨_, rfl, ns.map .int, (ns.map .int).take 1, .lst, by rw [lnM]; exact le_sz (by lia), fun V vs hv => hv.slUpto 1, ?_⟩))))) rfl⟩)
 refine Es.nil ⟨.builtin, Ca.sum (ns := ns.take 1) (by rw [List.map_take]; exact .lst) ⟨_, _, _, rfl, by trivial, ?_⟩⟩
 refine Xs.cons (X.nm F (E.cmp (E.binop (E.binop (E.n F (E.int (Bin.floordiv_int (by decide) (smallDiv _ (by decide)) (E.int (Bin.mod_int (by decide) (E.int (Cmp.eq_int ⟨_, _, _, rfl, by trivial, ?_⟩)))))))))))
 refine Xs.cons ?_
 show X _ _ (.Assign [.Tuple [.Name "own" _, .Name "prefixes" _] _ _] (.Tuple [.List [.Constant (.str "u") _ _, .Constant (.str "v") _ _, .Constant (.str "w") _ _] _, .List [.List [.Constant (.str "p") _ _, .Constant (.str "q") _ _] _, .List [.Constant (.str "b") _ _, .Constant (.str "c") _ _] _, .List [.IfExp (.Name "bare" _) (.Constant (.str "e") _ _) (.Constant (.str "") _ _) _, .Constant (.str "d") _ _] _] _] _ _) _) _ _ _
 refine (X.asgTs (names := ["own", "prefixes"]) ?_ (by kernel_rfl) (by kernel_rfl) : X _ _ _ _ _ _)
 refine (E.tuple ?_ : E _ _ _ _ _)
 refine (Es.cons ?_ (by kernel_rfl) : Es _ _ _ _ _ _)
 refine (E.lst (Es.strC (Es.strC (Es.strC (Es.nil ⟨le_sz (by show 3 <= 16777216; decide), ?_⟩)))) : E _ _ _ _ _)
 refine (Es.cons ?_ (by kernel_rfl) : Es _ _ _ _ _ _)
 refine (E.lst ?_ : E _ _ _ _ _)
 refine (Es.cons ?_ (by kernel_rfl) : Es _ _ _ _ _ _)
 refine (E.lst (Es.strC (Es.strC (Es.nil ⟨le_sz (by show 2 <= 16777216; decide), ?_⟩))) : E _ _ _ _ _)
 refine (Es.cons ?_ (by kernel_rfl) : Es _ _ _ _ _ _)
 refine (E.lst (Es.strC (Es.strC (Es.nil ⟨le_sz (by show 2 <= 16777216; decide), ?_⟩))) : E _ _ _ _ _)
 refine (Es.cons ?_ (by kernel_rfl) : Es _ _ _ _ _ _)
 refine (E.lst ?_ : E _ _ _ _ _)
 generalize hb : ((ns.take 1).sum / 2 % 2 == 1) = b at h ⊢
 refine (Es.cons (E.ifStr (x := "e") (y := "") (b := b) ?_ ?_) (by kernel_rfl) : Es _ _ _ _ _ _)
 ·exact E.n F ⟨rfl, rfl⟩
 refine Es.strC (Es.nil ⟨le_sz (by show 2 <= 16777216; decide), ?_⟩)
 refine Es.nil ⟨le_sz (by show 3 <= 16777216; decide), ?_⟩
 refine Es.nil ⟨le_sz (by show 2 <= 16777216; decide), [_, _], rfl, rfl, ?_⟩
 rw [pL_pref]
 refine Binds.su F (by trivial) (Binds.su F (by trivial) ?_)
 refine Xs.cons ?_
 show X _ _ (.Assign [.Tuple [.Name "tags" _, .Name "keys" _] _ _] (.Tuple [.List [.Name "xml" _, .Name "xs" _, .Constant (.str "u") _ _, .Constant (.str "v") _ _, .Constant (.str "w") _ _, .IfExp (.Name "bare" _) (.Constant (.str "") _ _) (.Constant (.str "u") _ _) _] _, .List [.Constant (.str "") _ _, .Name "xml" _, .Name "xs" _, .Constant (.str "u") _ _, .Constant (.str "v") _ _, .IfExp (.Name "bare" _) (.Constant (.str "w") _ _) (.Constant (.str "") _ _) _] _] _ _) _) _ _ _
 refine (X.asgTs (names := ["tags", "keys"]) ?_ (by kernel_rfl) (by kernel_rfl) : X _ _ _ _ _ _)
 refine (E.tuple ?_ : E _ _ _ _ _)
 refine (Es.cons ?_ (by kernel_rfl) : Es _ _ _ _ _ _)
 refine (E.lst ?_ : E _ _ _ _ _)
 refine (Es.cons ?_ (by kernel_rfl) : Es _ _ _ _ _ _)
 refine E.n F ?_
 refine (Es.cons ?_ (by kernel_rfl) : Es _ _ _ _ _ _)
 refine E.n F ?_
 refine Es.strC (Es.strC (Es.strC ?_))
 refine (Es.cons (E.ifStr (x := "") (y := "u") (b := b) ?_ ?_) (by kernel_rfl) : Es _ _ _ _ _ _)
 ·exact E.n F ⟨rfl, rfl⟩
 refine Es.nil ⟨le_sz (by show 6 <= 16777216; decide), ?_⟩
 refine (Es.cons ?_ (by kernel_rfl) : Es _ _ _ _ _ _)
 refine (E.lst ?_ : E _ _ _ _ _)
 refine Es.strC ?_
 refine (Es.cons ?_ (by kernel_rfl) : Es _ _ _ _ _ _)
 refine E.n F ?_
 refine (Es.cons ?_ (by kernel_rfl) : Es _ _ _ _ _ _)
 refine E.n F ?_
 refine Es.strC (Es.strC ?_)
 refine (Es.cons (E.ifStr (x := "w") (y := "") (b := b) ?_ ?_) (by kernel_rfl) : Es _ _ _ _ _ _)
 ·exact E.n F ⟨rfl, rfl⟩
 refine Es.nil ⟨le_sz (by show 6 <= 16777216; decide), ?_⟩
 refine Es.nil ⟨le_sz (by show 2 <= 16777216; decide), [_, _], rfl, rfl, ?_⟩
 rw [uL_tags, uL_keys]
 refine Binds.su F (by trivial) (Binds.su F (by trivial) ?_)
 refine Xs.cons ?_
 show X _ _ (.Assign [.Tuple [.Name "out" _, .Name "due" _, .Name "path" _] _ _] (.Tuple [.List [] _, .List [] _, .List [] _] _ _) _) _ _ _
 refine (X.asgTs (names := ["out", "due", "path"]) ?_ (by kernel_rfl) (by kernel_rfl) : X _ _ _ _ _ _)
 refine (E.tuple ?_ : E _ _ _ _ _)
 refine (Es.cons ?_ (by kernel_rfl) : Es _ _ _ _ _ _)
 refine (E.list (Es.nil ⟨le_sz (by show 0 <= 16777216; decide), _, _, rfl, fun oa => ?_⟩) : E _ _ _ _ _)
 refine (Es.cons ?_ (by kernel_rfl) : Es _ _ _ _ _ _)
 refine (E.list (Es.nil ⟨le_sz (by show 0 <= 16777216; decide), _, _, rfl, fun ua => ?_⟩) : E _ _ _ _ _)
 refine (Es.cons ?_ (by kernel_rfl) : Es _ _ _ _ _ _)
 refine (E.list (Es.nil ⟨le_sz (by show 0 <= 16777216; decide), _, _, rfl, fun pa => ?_⟩) : E _ _ _ _ _)
 refine Es.nil ⟨le_sz (by show 3 <= 16777216; decide), [_, _, _], rfl, rfl, ?_⟩
 refine Binds.su F (by trivial) (Binds.su F (by trivial) (Binds.su F (by trivial) ?_))
 exact h oa pa ua
end
noncomputable def t0 (rw : Bool) (l1 l2 l3 : Addr) : St := ⟨rw, false, false, [], [], [(l1, xml1)], (if rw = true then [] else [(l3, nsL)]) ++ [(l2, [])], [], [false]⟩
noncomputable abbrev lawV (script : PV) (fs : Int) (b : Bool) (oa ua pa x : Addr) (g1 g2 g3 g4 g5 g6 g7 g8 g9 g10 g11 g12 g13 g14 : Option PV) : List (Option PV) :=
 [some script, some (.str (uS 1)), some (.str (uS 2)), some (.int fs), some (.bool b), some (uL ownU), some (pL (prefP b)), some (uL (tagsU b)), some (uL (keysU b)), some (.raw (.ref oa)), some (.raw (.ref ua)), some (.raw (.ref pa)), some (.raw (.ref x)), g1, g2, g3, g4, g5, g6, g7, g8, g9, g10, g11, g12, g13, g14]
theorem tperm1 {α : Type} (L x b pa ua oa ps pm l2 N D l1 data dx : α) (σ X : List α) : (L :: x :: b :: ua :: pa :: (dx :: data :: oa :: ps :: pm :: D :: N :: l1 :: (X ++ (l2 :: σ)))).Perm (x :: ps :: pm :: l2 :: N :: D :: l1 :: data :: dx :: (((L :: pa :: ua :: oa :: σ) ++ [b]) ++ X)) :=
 by rw [List.append_assoc]; exact permI [[x], [ps], [pm], [l2], [N], [D], [l1], [data], [dx], [L], [pa], [ua], [oa], σ, [b], X] [9, 0, 14, 11, 10, 8, 7, 12, 1, 2, 5, 4, 6, 15, 3, 13] 16 (by decide +kernel) rfl
section
variable {c : Cx} {σ : Store} {L : Addr} {N : Store -> Prop} {R : PV -> Store -> Prop}
theorem law_tgt (B : Base c) (hd : c.d + 1 < recursionLimit) (F : Fm (callEnv fd197 L 197) L NW) {script : PV} {fs : Int} {b : Bool} {oa ua pa : Addr}
  (h : ∀ β a l1 l2 l3, VLe c.β β -> Tg (c.ext c.F β) a -> a.out = oa -> Xs (c.ext c.F β) (callEnv fd197 L 197) (bd197.drop 8) ((L, .loc NW (lawV script fs b oa ua pa a.x none none none none none none none none none none none none none none)) :: (ua, .list []) :: (pa, .list []) :: (Sf a (t0 (fs % 2 == 1) l1 l2 l3) ++ σ)) N R) :
  Xs c (callEnv fd197 L 197) (bd197.drop 6) ((L, .loc NW [some script, some (.str (uS 1)), some (.str (uS 2)), some (.int fs), some (.bool b), some (uL ownU), some (pL (prefP b)), some (uL (tagsU b)), some (uL (keysU b)), some (.raw (.ref oa)), some (.raw (.ref ua)), some (.raw (.ref pa)), none, none, none, none, none, none, none, none, none, none, none, none, none, none, none]) :: (pa, .list []) :: (ua, .list []) :: (oa, .list []) :: σ) N R := by
 refine Xs.cons (X.nm F ?_)
 refine E.postP ?_
 refine E.callK2 ?_
 refine E.globK (v := .ref TC) B rfl rfl rfl (by kernel_rfl) ⟨_, rfl, ?_⟩
 refine E.attr (E.n F (At.append (.tail _ (.tail _ (.tail _ (.head _)))) fun bm => ?_))
 refine E.bool (E.cmp (E.binop (E.n F (E.int (Bin.mod_int (by decide) (E.int (Cmp.eq_int ⟨KeeperIs.cls B, ?_⟩)))))))
 refine CaK.target B hd fun x dx data D Nn pm ps l1 l2 l3 => ?_
 obtain ⟨rw, hrw⟩ : ∃ rw, rw = (fs % 2 == 1) := ⟨_, rfl⟩
 rw [<- hrw] at h ⊢
 refine ⟨_, _, tperm1 _ _ _ _ _ _ _ _ _ _ _ _ _ _ _ _, .refl _, _, _, _, rfl, by trivial, ?_⟩
 refine (Xs.perm (List.Perm.swap _ _ _) ?_ : Xs _ _ _ _ _ _)
 refine (Xs.freeze (fun β hβ hx => ?_) : Xs _ _ _ _ _ _)
 refine (Xs.perm (List.Perm.swap _ _ _) ?_ : Xs _ _ _ _ _ _)
 refine (Xs.freeze (fun β2 hβ2 hb => ?_) : Xs _ _ _ _ _ _)
 have hx2 := hβ2.mem _ _ hx
 have hβ3 := hβ.trans hβ2
 have B2 : Base (c.ext c.F β2) := B.ext hβ3
 refine Xs.cons (X.selfN (xa := x) (dx := dx) B2 ⟨hx2⟩ F (by kernel_rfl) (E.globK (v := .ref 166) B2 rfl rfl rfl (by kernel_rfl) ?_))
 refine ⟨_, _, _, _, _, rfl, by trivial, .tail (.tail .head), by decide, by decide, ?_⟩
 have hh := h β2 ⟨x, dx, bm, oa, data, D, Nn, pm, ps⟩ l1 l2 l3 hβ3 ⟨⟨hx2⟩, hb⟩ rfl
 refine Xs.perm ?_ hh
 cases rw with
 | true => exact List.Perm.refl _
 | false => exact List.Perm.refl _
end
theorem foldl_rep {α : Type} (vs : List α) (k : Nat) : ∀ (acc : Array α), List.foldl (fun x1 x2 => x1 ++ x2) acc (List.replicate k vs.toArray) = acc ++ ((List.replicate k vs).flatten).toArray := by
 induction k with
 | zero => intro acc; simp
 | succ k ih =>
  intro acc
  rw [List.replicate_succ, List.foldl_cons, ih, List.replicate_succ, List.flatten_cons]
  simp
theorem VRs.rep {V : View} {l : List PV} {vs : List Value} (h : VRs V l vs) : ∀ k : Nat, VRs V (List.replicate k l).flatten (List.replicate k vs).flatten
 | 0 => .nil
 | k + 1 => by
  rw [List.replicate_succ, List.replicate_succ, List.flatten_cons, List.flatten_cons]
  exact h.append (h.rep k)
section
variable {c : Cx} {σ : Store} {Q : PV -> Store -> Prop}
theorem Bin.mul_list {p : PV} {l : List PV} {k : Int} (hl : LV c σ p l) (hk : k < 2 ^ 63) (hk0 : 0 <= k) (hz : l.length * k.toNat <= 2 ^ 24) (h : Q (.lst (List.replicate k.toNat l).flatten) σ) : Bin c .Mult p (.int k) σ Q := fun V va vb ra rb A s hA R hV => by
 obtain ⟨a, vs, n, rfl, ea, rva⟩ := hl s va R (ra.mono hV)
 obtain ⟨u, rfl⟩ := rb.inv_int
 have hsz : vs.toArray.size = l.length := by rw [List.size_toArray, rva.length]
 refine wpAny_binaryOp_repeat_ref (T := "list") (U := "int") (by decide) ⟨_, ea, rfl⟩ (fun s' => typeIs_int s' k u) noFill_list_mul _root_.PySem.F.fills_int_mul _root_.PySem.F.slot_int_rmul repeat_list _root_.PySem.F.slot_int_index.lookup
  (call_meets _root_.PySem.F.slot_int_rmul (typeIs_int s k u) _root_.PySem.F.entry_int_rmul (_root_.PySem.F.args_int_rmul_2 _ _) (int___rmul___int_list k u a vs.toArray n)
   ⟨ea, rfl, ⟨_, ea, rfl⟩, call_meets _root_.PySem.F.slot_list_mul ⟨_, ea, rfl⟩ _root_.PySem.F.entry_list_mul (_root_.PySem.F.args_list_mul_2 _ _)
    (AutoListH.list___mul___list_int_3 a vs.toArray n k u (by simp [Builtin.List.listFitsIndex]; omega) (by rw [hsz]; omega) (by simp only [Builtin.List.listTooLong, sizeLine_eq]; rw [decide_eq_true_eq]; rw [hsz]; omega))
    ⟨ea, ?_⟩⟩)
 have e : (List.foldl (fun x1 x2 => x1 ++ x2) #[] (List.replicate (if vs.toArray.isEmpty = true then 0 else k.toNat) vs.toArray)) = ((List.replicate k.toNat vs).flatten).toArray := by
  cases vs with
  | nil => simp
  | cons v vs => rw [if_neg (by simp), foldl_rep]; simp
 rw [e]
 obtain ⟨o2, e2⟩ := R.push_frz { cls := .type "list", data := .seq ((List.replicate k.toNat vs).flatten).toArray }
 exact ⟨σ, o2, .lst (List.replicate k.toNat l).flatten, .lst e2 ((rva.rep k.toNat).mono o2.view), h⟩
end
noncomputable def mvP (m : Int × Int) : PV := .tup [.int m.1, .int m.2]
noncomputable def mvL (ns : List Int) : List (Int × Int) := [(0, (ns.take 1).sum / 4)] ++ (ns.drop 1).map (fun x => (x % 6, x / 6)) ++ List.replicate ns.length (1, 0) ++ [(6, 0)]
noncomputable def mvF : PV -> PV
 | .int x => .tup [.int (x % 6), .int (x / 6)]
 | p => p
theorem mvF_map (ns : List Int) : ((ns.map PV.int).filter (fun _ => true)).map mvF = (ns.map fun x => (x % 6, x / 6)).map mvP := by
 rw [List.filter_eq_self.mpr (by simp), List.map_map, List.map_map]
 rfl
theorem rep_flat {α : Type} (k : Nat) (a : α) : (List.replicate k [a]).flatten = List.replicate k a := by
 induction k with
 | zero => rfl
 | succ k ih => rw [List.replicate_succ, List.flatten_cons, ih]; rfl
section
variable {c : Cx} {σ : Store} {L : Addr} {N : Store -> Prop} {R : PV -> Store -> Prop} {g1 g2 g3 g4 g5 g6 g7 g8 g9 g10 g11 g12 g13 g14 : Option PV}
theorem law_mv (B : Base c) (F : Fm (callEnv fd197 L 197) L NW) {ns : List Int} {b : Bool} {oa ua pa x : Addr} (hn : ns.length <= 100)
  (h : Xs c (callEnv fd197 L 197) (bd197.drop 9) ((L, .loc NW (lawV (.lst (ns.map .int)) (ns.take 1).sum b oa ua pa x (some (.lst ((mvL ns).map mvP))) g2 g3 g4 g5 g6 g7 g8 g9 g10 g11 g12 g13 g14)) :: σ) N R) :
  Xs c (callEnv fd197 L 197) (bd197.drop 8) ((L, .loc NW (lawV (.lst (ns.map .int)) (ns.take 1).sum b oa ua pa x g1 g2 g3 g4 g5 g6 g7 g8 g9 g10 g11 g12 g13 g14)) :: σ) N R := by
 refine Xs.cons (X.nm F ?_)
 refine E.binop (E.binop (E.binop (E.lst (Es.cons (E.tuple (Es.cons (E.int (Es.cons (E.binop (E.n F (E.int (Bin.floordiv_int (by decide) (smallDiv _ (by decide)) (Es.nil ⟨le_sz (by show 2 <= 16777216; decide), ?_⟩))))) rfl)) rfl)) rfl))))
 refine Es.nil ⟨le_sz (by show 1 <= 16777216; decide), ?_⟩
 refine E.compF (ns := ["x"]) (cl := []) (CompOk.of (closureFor_nil (by decide +kernel)) (by decide +kernel) rfl (by kernel_rfl) (by decide) rfl) fun FC => ?_
 refine E.slL (E.n F (Pt.some (E.int ⟨_, rfl, Pt.none ⟨ns.map .int, (ns.map .int).drop 1, .lst, by rw [lnM]; exact le_sz (by omega), fun V vs hv => hv.slFrom 1, ?_⟩⟩)))
 refine ⟨(ns.map .int).drop 1, _, fun _ => true, mvF, Itb.lst, fun _ _ => trivial, by rw [List.length_drop, lnM]; exact le_sz (by omega), ?_, ?_⟩
 ·intro F' β' hb C q vs hq hvs
  obtain ⟨v1, rfl⟩ := len1 hvs
  obtain ⟨y, hy, rfl⟩ := List.mem_map.mp (List.mem_of_mem_drop hq)
  have F2 := FC C
  refine Asg.name F2.lo rfl .head ⟨_, rfl, rfl, fun V => tests_nil fun _ _ => ⟨rfl, rfl⟩, fun _ => ?_⟩
  exact E.tuple (Es.cons (E.binop (E.n F2 (E.int (Bin.mod_int (by decide) (Es.cons (E.binop (E.n F2 (E.int (Bin.floordiv_int (by decide) (smallDiv _ (by decide)) (Es.nil ⟨le_sz (by show 2 <= 16777216; decide), rfl, rfl⟩))))) rfl))))) rfl)
 ·rw [<- List.map_drop, mvF_map]
  refine Bin.add_list (l := [mvP (0, (ns.take 1).sum / 4)]) .lst .lst (by simp; exact le_sz (by omega)) ?_
  refine E.binop (E.lst (Es.cons (E.tuple (Es.cons (E.int (Es.cons (E.int (Es.nil ⟨le_sz (by show 2 <= 16777216; decide), ?_⟩)) rfl)) rfl)) rfl))
  refine Es.nil ⟨le_sz (by show 1 <= 16777216; decide), ?_⟩
  refine E.call (E.globB (v := .builtin "len") B rfl rfl rfl rfl (by kernel_rfl) rfl ⟨_, rfl, Es.cons (E.nm F (by trivial) (Es.nil ⟨.builtin, Ca.len_list .lst (by rw [lnM]; exact le_sz (by omega)) ?_⟩)) rfl⟩)
  rw [lnM]
  refine Bin.mul_list .lst (by omega) (by omega) (by simp; omega) ?_
  rw [Int.toNat_natCast, rep_flat]
  refine Bin.add_list .lst .lst (by simp; exact le_sz (by omega)) ?_
  refine E.lst (Es.cons (E.tuple (Es.cons (E.int (Es.cons (E.int (Es.nil ⟨le_sz (by show 2 <= 16777216; decide), ?_⟩)) rfl)) rfl)) rfl)
  refine Es.nil ⟨le_sz (by show 1 <= 16777216; decide), Bin.add_list .lst .lst (by simp; exact le_sz (by omega)) ⟨_, _, _, rfl, by trivial, ?_⟩⟩
  have e : (mvL ns).map mvP = [mvP (0, (ns.take 1).sum / 4)] ++ ((ns.drop 1).map fun x => (x % 6, x / 6)).map mvP ++ List.replicate ns.length (.tup [.int 1, .int 0]) ++ [.tup [.int 6, .int 0]] := by
   unfold mvL
   simp [mvP]
  rw [e] at h
  exact h
end
noncomputable def bl197 : List Stmt := getFo (l := bd197.drop 9) rfl
noncomputable def el79 : List Stmt := getEl (l := getEl (l := bl197.drop 1) rfl) rfl
structure PE where
 n : Nm
 la : Addr
 told : List U
noncomputable def peP (e : PE) : PV := .tup [.str (nmS e.n), .raw (.ref e.la)]
noncomputable def peC (e : PE) : Addr × Cell := (e.la, .list (e.told.map fun u => .str (uS u)))
noncomputable abbrev lwT (ua pa : Addr) (a : SA) (t : St) (due : List Ev) (path : List PE) (tb : Option (Addr × Obj)) (σ : Store) : Store :=
 (ua, .list (due.map evP)) :: (pa, .list (path.map peP)) :: (path.map peC ++ (Sf a t ++ (tbS tb ++ σ)))
noncomputable def pcS (m r : Int) : Str := if (m != 3) = true then piece r else Sl [(r % 1114112).toNat]
theorem K_data (P : Params) : findIn (KK P) (.ref TC) "data" = some (some (.ref 90)) := by kernel_rfl
theorem K_90 (P : Params) : typeIn (KK P) (.ref 90) = some (.type "function") := by kernel_rfl
theorem K_comment (P : Params) : findIn (KK P) (.ref TC) "comment" = some (some (.ref 133)) := by kernel_rfl
theorem K_133 (P : Params) : typeIn (KK P) (.ref 133) = some (.type "function") := by kernel_rfl
theorem K_pi (P : Params) : findIn (KK P) (.ref TC) "pi" = some (some (.ref 140)) := by kernel_rfl
theorem K_140 (P : Params) : typeIn (KK P) (.ref 140) = some (.type "function") := by kernel_rfl
theorem K_end (P : Params) : findIn (KK P) (.ref TC) "end" = some (some (.ref 126)) := by kernel_rfl
theorem K_126 (P : Params) : typeIn (KK P) (.ref 126) = some (.type "function") := by kernel_rfl
theorem piece_len (n : Int) : (piece n).length <= 4 := by
 unfold piece
 have : (n % 13).toNat < 13 := by have := Int.emod_lt_of_pos n (show (0 : Int) < 13 by decide); lia
 generalize (n % 13).toNat = k at this
 have hs : ∀ s ∈ signsL, s.length <= 4 := by decide +kernel
 have hl : (signsL ++ [Sl [(n / 13 % 1114112).toNat]]).length = 13 := rfl
 rw [List.getD_eq_getElem?_getD, List.getElem?_eq_getElem (by rw [hl]; exact this), Option.getD_some]
 have hm : (signsL ++ [Sl [(n / 13 % 1114112).toNat]])[k]'(by rw [hl]; exact this) ∈ signsL ++ [Sl [(n / 13 % 1114112).toNat]] := List.getElem_mem _
 rcases List.mem_append.mp hm with h | h
 ·exact hs _ h
 ·rw [List.mem_singleton.mp h, len_Sl]; exact (by decide : 1 <= 4)
theorem pcS_len (m r : Int) : (pcS m r).length <= 4 := by
 unfold pcS
 split
 ·exact piece_len r
 ·exact (by decide : 1 <= 4)
section
variable {c : Cx} {σ : Store} {L : Addr} {N : Store -> Prop} {R : PV -> Store -> Prop} {g1 g2 g3 g4 g5 g6 g7 g8 g9 g10 g11 g12 g13 g14 : Option PV} {script : PV} {fs : Int} {b : Bool} {oa ua pa : Addr} {a : SA} {t : St} {due : List Ev} {path : List PE} {tb : Option (Addr × Obj)} {τ : Store} {m r : Int}
theorem lb_piece (B : Base c) (hd : c.d < recursionLimit) (F : Fm (callEnv fd197 L 197) L NW)
  (h : Xs c (callEnv fd197 L 197) (bl197.drop 1) ((L, .loc NW (lawV script fs b oa ua pa a.x g1 (some (.int m)) (some (.int r)) (some (.str (pcS m r))) g5 g6 g7 g8 g9 g10 g11 g12 g13 g14)) :: τ) N R) :
  Xs c (callEnv fd197 L 197) bl197 ((L, .loc NW (lawV script fs b oa ua pa a.x g1 (some (.int m)) (some (.int r)) g4 g5 g6 g7 g8 g9 g10 g11 g12 g13 g14)) :: τ) N R := by
 refine Xs.cons (X.nm F (E.ifexp (T.cmp (E.n F (E.int (Cmp.ne_int (Tr.bool ?_)))))))
 unfold pcS at h
 by_cases hm : (m != 3) = true
 ·rw [if_pos hm]
  rw [if_pos hm] at h
  exact E.call (E.globK (v := .ref 173) B rfl rfl rfl (by kernel_rfl) ⟨_, rfl, Es.cons (E.n F (Es.nil ⟨.fn B (at173 _), Ca173 B hd ⟨_, _, _, rfl, by trivial, h⟩⟩)) rfl⟩)
 ·rw [if_neg hm]
  rw [if_neg hm] at h
  have hch : 0 <= r % 1114112 /\ r % 1114112 < 1114112 := ⟨Int.emod_nonneg _ (by decide), Int.emod_lt_of_pos _ (by decide)⟩
  exact E.call (E.globB (v := .builtin "chr") B rfl rfl rfl rfl (by kernel_rfl) rfl ⟨_, rfl, Es.cons (E.binop (E.n F (E.int (Bin.mod_int (by decide) (Es.nil ⟨.builtin, Ca.chr hch.1 (by lia) ⟨_, _, _, rfl, by trivial, h⟩⟩))))) rfl⟩)
theorem len_gt (l : List PE) : (decide (((l.length : Nat) : Int) > 1)) = decide (1 < l.length) := by
 rw [decide_eq_decide]; lia
theorem lb_not (B : Base c) (F : Fm (callEnv fd197 L 197) L NW) (hm0 : m ≠ 0) (hm6 : m ≠ 6) (hm1 : m = 1 -> path.length <= 1) (hl : path.length <= 1000)
  (h : Xs c (callEnv fd197 L 197) el79 ((L, .loc NW (lawV script fs b oa ua pa a.x g1 (some (.int m)) g3 g4 g5 g6 g7 g8 g9 g10 g11 g12 g13 g14)) :: lwT ua pa a t due path tb σ) N R) :
  Xs c (callEnv fd197 L 197) (bl197.drop 1) ((L, .loc NW (lawV script fs b oa ua pa a.x g1 (some (.int m)) g3 g4 g5 g6 g7 g8 g9 g10 g11 g12 g13 g14)) :: lwT ua pa a t due path tb σ) N R := by
 refine Xs.cons (X.iff (T.cmp (E.n F (E.int (Cmp.eq_int (Tr.bool ?_))))))
 rw [if_neg (by simpa using hm0)]
 refine Xs.cons (X.iff (T.or (or_cons (T.cmp (E.n F (E.int (Cmp.eq_int (Tr.bool ?_))))))))
 rw [if_neg (by simpa using hm6)]
 have fin : Xs c (callEnv fd197 L 197) el79 ((L, .loc NW (lawV script fs b oa ua pa a.x g1 (some (.int m)) g3 g4 g5 g6 g7 g8 g9 g10 g11 g12 g13 g14)) :: lwT ua pa a t due path tb σ) (fun σ1 => Xs c (callEnv fd197 L 197) [] σ1 (fun σ1 => Xs c (callEnv fd197 L 197) [] σ1 N R) R) R :=
  h.mono (fun σ' hh => Xs.nil (Xs.nil hh)) fun _ _ hh => hh
 refine or_cons (T.and (and_cons (T.cmp (E.n F (E.int (Cmp.eq_int (Tr.bool ?_)))))))
 by_cases h1 : m = 1
 ·rw [if_pos (by simpa using h1)]
  refine and_cons (T.cmp (E.call (E.globB (v := .builtin "len") B rfl rfl rfl rfl (by kernel_rfl) rfl ⟨_, rfl, Es.cons (E.n F (Es.nil ⟨.builtin, Ca.len_list (LV.list (.tail _ (.tail _ (.head _)))) (by rw [lnM]; exact le_sz (by lia)) ?_⟩)) rfl⟩)))
  rw [lnM]
  refine E.int (Cmp.gt_int (Tr.bool ?_))
  rw [len_gt, if_neg (by have := hm1 h1; simp; lia), if_neg (by simp)]
  refine or_nil ?_
  rw [if_neg (by simp)]
  exact fin
 ·rw [if_neg (by simpa using h1), if_neg (by simp)]
  refine or_nil ?_
  rw [if_neg (by simp)]
  exact fin
end
noncomputable def if80 : List Stmt := getIf (l := getEl (l := bl197.drop 1) rfl) rfl
section
variable {c : Cx} {σ : Store} {L : Addr} {N : Store -> Prop} {R : PV -> Store -> Prop} {g1 g2 g3 g4 g5 g6 g7 g8 g9 g10 g11 g12 g13 g14 : Option PV} {script : PV} {fs : Int} {b : Bool} {oa ua pa : Addr} {a : SA} {t : St} {due : List Ev} {path : List PE} {tb : Option (Addr × Obj)} {τ : Store} {m r : Int}
theorem lw_mem {p : Addr × Cell} {A : Addr × Cell} (hp : p ∈ Sf a t) : p ∈ A :: lwT ua pa a t due path tb σ :=
 .tail _ (.tail _ (.tail _ (memR _ (memL _ hp))))
theorem lb_data (B : Base c) (S : Tg c a) (hd : c.d + 1 < recursionLimit) (F : Fm (callEnv fd197 L 197) L NW) (ok : Ok2 t) (hdl : due.length <= 1000) (hm0 : m ≠ 0) (hm6 : m ≠ 6) (hm1 : m = 1 -> path.length <= 1) (hl : path.length <= 1000) (h4 : m ≠ 4) (h5 : m ≠ 5) {x : Str}
  (h : N ((L, .loc NW (lawV script fs b oa ua pa a.x g1 (some (.int m)) g3 (some (.str x)) g5 g6 g7 g8 g9 g10 g11 g12 g13 g14)) :: lwT ua pa a { t with data := t.data ++ [x] } (due ++ [.tx "text" x]) path tb σ)) :
  Xs c (callEnv fd197 L 197) (bl197.drop 1) ((L, .loc NW (lawV script fs b oa ua pa a.x g1 (some (.int m)) g3 (some (.str x)) g5 g6 g7 g8 g9 g10 g11 g12 g13 g14)) :: lwT ua pa a t due path tb σ) N R := by
 refine lb_not B F hm0 hm6 hm1 hl ?_
 refine Xs.cons (X.iff (T.cmp (E.n F (E.int (Cmp.eq_int (Tr.bool ?_))))))
 rw [if_neg (by simpa using h4)]
 refine Xs.cons (X.iff (T.cmp (E.n F (E.int (Cmp.eq_int (Tr.bool ?_))))))
 rw [if_neg (by simpa using h5)]
 refine Xs.cons (X.expr (E.meth (E.n F (Gm.cls B S (lw_mem Sf_inst) (by decide) (K_data _) (K_90 _) (Es.cons (E.n F (Es.nil ⟨.fn B (at90 _), ?_⟩)) rfl))) rfl))
 refine Ca90 (pre := (L, _) :: (ua, _) :: (pa, _) :: path.map peC) B S hd ok ?_
 refine Xs.cons (X.expr (E.meth (E.n F (Gm.append (.tail _ (.head _)) (Es.cons (E.tuple (Es.strC (Es.cons (E.n F (Es.nil ⟨le_sz (by show 2 <= 16777216; decide), ?_⟩)) rfl))) rfl))) rfl))
 refine Es.nil ⟨.builtin, Ca.append (.tail .head) (by rw [lnM]; exact le_sz (by lia)) (Xs.nil (Xs.nil (Xs.nil ?_)))⟩
 have h' := h
 unfold lwT at h'
 rw [app_ev] at h'
 exact h'
theorem lb_comment (B : Base c) (S : Tg c a) (hd : c.d + 3 < recursionLimit) (F : Fm (callEnv fd197 L 197) L NW) (ok : Ok2 t) (hs : t.seen = true) (hdn : t.done = false) (hdl : due.length <= 1000) (hl : path.length <= 1000) {x : Str} (hx : x.length <= 100)
  (h : N ((L, .loc NW (lawV script fs b oa ua pa a.x g1 (some (.int 4)) g3 (some (.str x)) g5 g6 g7 g8 g9 g10 g11 g12 g13 g14)) :: lwT ua pa a (outSt t (("<!--" : Str) ++ escCs x ++ "-->")) (due ++ [.tx "comment" (("<!--" : Str) ++ x ++ "-->")]) path tb σ)) :
  Xs c (callEnv fd197 L 197) (bl197.drop 1) ((L, .loc NW (lawV script fs b oa ua pa a.x g1 (some (.int 4)) g3 (some (.str x)) g5 g6 g7 g8 g9 g10 g11 g12 g13 g14)) :: lwT ua pa a t due path tb σ) N R := by
 refine lb_not B F (by decide) (by decide) (fun h => by cases h) hl ?_
 refine Xs.cons (X.iff (T.cmp (E.n F (E.int (Cmp.eq_int (Tr.bool ?_))))))
 rw [if_pos (by decide)]
 refine Xs.cons (X.expr (E.meth (E.n F (Gm.cls B S (lw_mem Sf_inst) (by decide) (K_comment _) (K_133 _) (Es.cons (E.n F (Es.nil ⟨.fn B (at133 _), ?_⟩)) rfl))) rfl))
 refine Ca133 (pre := (L, _) :: (ua, _) :: (pa, _) :: path.map peC) B S hd ok hs hdn hx ?_
 refine Xs.cons (X.expr (E.meth (E.n F (Gm.append (.tail _ (.head _)) ?_)) rfl))
 refine Es.cons (E.tuple (Es.strC (Es.cons ?_ rfl))) rfl
 refine E.binop (E.binop (E.str (E.n F (Bin.add_str ?_ (E.str (Bin.add_str ?_ ?_))))))
 ·rw [sizeLine_eq]; show 4 + x.length <= _; lia
 ·rw [sizeLine_eq, str_len_append]; show 4 + x.length + 3 <= _; lia
 refine Es.nil ⟨le_sz (by show 2 <= 16777216; decide), Es.nil ⟨.builtin, Ca.append (.tail .head) (by rw [lnM]; exact le_sz (by lia)) (Xs.nil (Xs.nil ?_))⟩⟩
 have h' := h
 unfold lwT at h'
 rw [app_ev] at h'
 exact h'
noncomputable def piD (x : Str) : Str := (("<?t" : Str) ++ (if (x != ("" : Str)) = true then (" " : Str) ++ x else "")) ++ "?>"
theorem lb_pi (B : Base c) (S : Tg c a) (hd : c.d + 3 < recursionLimit) (F : Fm (callEnv fd197 L 197) L NW) (ok : Ok2 t) (hs : t.seen = true) (hdn : t.done = false) (hdl : due.length <= 1000) (hl : path.length <= 1000) {x : Str} (hx : x.length <= 100)
  (h : N ((L, .loc NW (lawV script fs b oa ua pa a.x g1 (some (.int 5)) g3 (some (.str x)) g5 g6 g7 g8 g9 g10 g11 g12 g13 g14)) :: lwT ua pa a (outSt t (piS x)) (due ++ [.tx "pi" (piD x)]) path tb σ)) :
  Xs c (callEnv fd197 L 197) (bl197.drop 1) ((L, .loc NW (lawV script fs b oa ua pa a.x g1 (some (.int 5)) g3 (some (.str x)) g5 g6 g7 g8 g9 g10 g11 g12 g13 g14)) :: lwT ua pa a t due path tb σ) N R := by
 refine lb_not B F (by decide) (by decide) (fun h => by cases h) hl ?_
 refine Xs.cons (X.iff (T.cmp (E.n F (E.int (Cmp.eq_int (Tr.bool ?_))))))
 rw [if_neg (by decide)]
 refine Xs.cons (X.iff (T.cmp (E.n F (E.int (Cmp.eq_int (Tr.bool ?_))))))
 rw [if_pos (by decide)]
 refine Xs.cons (X.expr (E.meth (E.n F (Gm.cls B S (lw_mem Sf_inst) (by decide) (K_pi _) (K_140 _) ?_)) rfl))
 refine Es.strC (Es.cons (E.n F (Es.nil ⟨.fn B (at140 _), ?_⟩)) rfl)
 refine Ca140 (pre := (L, _) :: (ua, _) :: (pa, _) :: path.map peC) B S hd ok hs hdn hx ?_
 refine Xs.cons (X.expr (E.meth (E.n F (Gm.append (.tail _ (.head _)) ?_)) rfl))
 refine Es.cons (E.tuple (Es.strC (Es.cons ?_ rfl))) rfl
 obtain ⟨y, hy⟩ : ∃ y, y = (if (x != ("" : Str)) = true then (" " : Str) ++ x else "") := ⟨_, rfl⟩
 have hyl : y.length <= 101 := by
  rw [hy]; split
  ·rw [str_len_append]; show 1 + x.length <= _; lia
  ·exact (by decide : 0 <= 101)
 refine E.binop (E.binop (E.str ?_))
 refine E.mono (Q := fun p σ1 => p = PV.str y /\ σ1 = ((L, Cell.loc NW (lawV script fs b oa ua pa a.x g1 (some (.int 5)) g3 (some (.str x)) g5 g6 g7 g8 g9 g10 g11 g12 g13 g14)) :: lwT ua pa a (outSt t (piS x)) due path tb σ)) ?_ ?_
 ·refine E.ifexp (T.cmp (E.n F (E.str (Cmp.ne_str (Tr.bool ?_)))))
  by_cases hx0 : (x != ("" : Str)) = true
  ·rw [if_pos hx0]
   rw [if_pos hx0] at hy
   exact E.binop (E.str (E.n F (Bin.add_str (by rw [sizeLine_eq]; show 1 + x.length <= _; lia) ⟨by rw [hy], rfl⟩)))
  ·rw [if_neg hx0]
   rw [if_neg hx0] at hy
   exact E.str ⟨by rw [hy], rfl⟩
 ·rintro p σ1 ⟨rfl, rfl⟩
  refine Bin.add_str (by rw [sizeLine_eq]; show 3 + y.length <= _; lia) (E.str (Bin.add_str ?_ ?_))
  ·rw [sizeLine_eq, str_len_append]; show 3 + y.length + 2 <= _; lia
  refine Es.nil ⟨le_sz (by show 2 <= 16777216; decide), Es.nil ⟨.builtin, Ca.append (.tail .head) (by rw [lnM]; exact le_sz (by lia)) (Xs.nil (Xs.nil (Xs.nil ?_)))⟩⟩
  have h' := h
  unfold lwT piD at h'
  rw [app_ev, <- hy] at h'
  exact h'
theorem lb_end (B : Base c) (S : Tg c a) (hd : c.d + 3 < recursionLimit) (F : Fm (callEnv fd197 L 197) L NW) (ok : Ok2 t) (ok1 : Ok t) (hN : t.N ≠ []) (hps : t.ps ≠ []) (hpl : t.ps.length <= 1000) (hdl : due.length <= 1000) (hl : path.length <= 1000) {e : PE} {q : Px × Bool × Bool} (hq : qn (flush t) e.n.1 = some q) (hm : m = 6 \/ (m = 1 /\ 0 < path.length))
  (h : N ((L, .loc NW (lawV script fs b oa ua pa a.x g1 (some (.int m)) g3 g4 g5 g6 g7 g8 g9 g10 g11 g12 g13 g14)) :: lwT ua pa a (endSt t q e.n) (due ++ [.tx "end" (nmS e.n)]) path tb σ)) :
  Xs c (callEnv fd197 L 197) (bl197.drop 1) ((L, .loc NW (lawV script fs b oa ua pa a.x g1 (some (.int m)) g3 g4 g5 g6 g7 g8 g9 g10 g11 g12 g13 g14)) :: lwT ua pa a t due (path ++ [e]) tb σ) N R := by
 have hm0 : m ≠ 0 := by rcases hm with h | h <;> lia
 refine Xs.cons (X.iff (T.cmp (E.n F (E.int (Cmp.eq_int (Tr.bool ?_))))))
 rw [if_neg (by simpa using hm0)]
 have epa : (path ++ [e]).map peP = path.map peP ++ [peP e] := by simp
 have epc : (path ++ [e]).map peC = path.map peC ++ [peC e] := by simp
 have main : ∀ (N' : Store -> Prop), (∀ σ', N σ' -> N' σ') -> Xs c (callEnv fd197 L 197) if80 ((L, .loc NW (lawV script fs b oa ua pa a.x g1 (some (.int m)) g3 g4 g5 g6 g7 g8 g9 g10 g11 g12 g13 g14)) :: lwT ua pa a t due (path ++ [e]) tb σ) N' R := fun N' hN' => by
  unfold lwT
  rw [epa, epc]
  refine Xs.cons (X.expr (E.meth (E.n F (Gm.append (.tail _ (.head _)) ?_)) rfl))
  refine Es.cons (E.tuple (Es.strC (Es.cons (E.sub ?_) rfl))) rfl
  refine E.meth (E.n F (Gm.pop (.tail _ (.tail _ (.head _))) (Es.nil ⟨.builtin, Ca.pop (.tail (.tail .head)) (by rw [lnM]; exact Nat.lt_of_le_of_lt hl (by decide)) ?_⟩))) rfl
  refine E.int (It.tup (l := [.str (nmS e.n), .raw (.ref e.la)]) (j := 0) (p := .str (nmS e.n)) (by decide) (by decide) rfl rfl ?_)
  refine Es.nil ⟨le_sz (by show 2 <= 16777216; decide), Es.nil ⟨.builtin, Ca.append (.tail .head) (by rw [lnM]; exact le_sz (by lia)) ?_⟩⟩
  refine Xs.drop (σ' := (L, .loc NW (lawV script fs b oa ua pa a.x g1 (some (.int m)) g3 g4 g5 g6 g7 g8 g9 g10 g11 g12 g13 g14)) :: (ua, .list (due.map evP ++ [.tup [.str "end", .str (nmS e.n)]])) :: (pa, .list (path.map peP)) :: (path.map peC ++ (Sf a t ++ (tbS tb ++ σ)))) ?_ ?_
  ·refine .cons_cons _ (.cons_cons _ (.cons_cons _ ?_))
   rw [List.append_assoc]
   exact (List.Sublist.refl _).append (List.sublist_append_right _ _)
  refine Xs.cons (X.expr (E.meth (E.n F (Gm.cls B S (.tail _ (.tail _ (.tail _ (memR _ (memL _ Sf_inst))))) (by decide) (K_end _) (K_126 _) ?_)) rfl))
  refine Es.cons (E.sub (E.sub (E.n F (E.neg (It.last (l := due.map evP) (p := .tup [.str "end", .str (nmS e.n)]) (.tail _ (.head _)) (E.int (It.tup (j := 1) (p := .str (nmS e.n)) (by decide) (by decide) rfl rfl ?_))))))) rfl
  refine Es.nil ⟨.fn B (at126 _), ?_⟩
  refine Ca126 (pre := (L, _) :: (ua, _) :: (pa, _) :: path.map peC) B S hd ok ok1 hN hps hpl hq (Xs.nil (hN' _ ?_))
  have h' := h
  unfold lwT at h'
  rw [app_ev] at h'
  exact h'
 refine Xs.cons (X.iff (T.or (or_cons (T.cmp (E.n F (E.int (Cmp.eq_int (Tr.bool ?_))))))))
 by_cases h6 : m = 6
 ·rw [if_pos (by simpa using h6), if_pos rfl]
  exact main _ fun σ' hh => Xs.nil (Xs.nil hh)
 ·rw [if_neg (by simpa using h6)]
  obtain ⟨h1, hp⟩ := hm.resolve_left h6
  refine or_cons (T.and (and_cons (T.cmp (E.n F (E.int (Cmp.eq_int (Tr.bool ?_)))))))
  rw [if_pos (by simpa using h1)]
  refine and_cons (T.cmp (E.call (E.globB (v := .builtin "len") B rfl rfl rfl rfl (by kernel_rfl) rfl ⟨_, rfl, Es.cons (E.n F (Es.nil ⟨.builtin, Ca.len_list (LV.list (.tail _ (.tail _ (.head _)))) (by rw [lnM, List.length_append]; exact le_sz (by simp; lia)) ?_⟩)) rfl⟩)))
  rw [lnM]
  refine E.int (Cmp.gt_int (Tr.bool ?_))
  rw [len_gt, if_pos (by simp; exact hp)]
  refine and_nil ?_
  rw [if_pos rfl, if_pos rfl]
  exact main _ fun σ' hh => Xs.nil (Xs.nil hh)
end
theorem strs_of {V : View} : ∀ {ys : List Str} {vs : List Value}, VRs V (ys.map .str) vs -> StrsAre vs ys
 | [], _, h => by rw [h.inv_nil]; exact .nil
 | n :: ns, _, h => by
  obtain ⟨v, vs, rfl, r, h2⟩ := h.inv_cons
  obtain ⟨t, rfl⟩ := r.inv_str
  exact .cons n t (strs_of h2)
section
variable {c : Cx} {σ : Store} {Q : PV -> Store -> Prop}
theorem Cmp.in_strs {p : PV} {ys : List Str} {k : Str} (hL : LV c σ p (ys.map .str)) (h : Q (.bool (ys.any (· == k))) σ) : Cmp c .In (.str k) p σ Q := fun V va vb ra rb A s hA R hV => by
 obtain ⟨t, rfl⟩ := ra.inv_str
 obtain ⟨a, vs, n, rfl, ea, rva⟩ := hL s vb R (rb.mono hV)
 exact in_list_strs (seqObj_isList ea) (strs_of rva) (ret_here R (.bool _) h)
theorem Cmp.notin_strs {p : PV} {ys : List Str} {k : Str} (hL : LV c σ p (ys.map .str)) (h : Q (.bool (!(ys.any (· == k)))) σ) : Cmp c .NotIn (.str k) p σ Q := fun V va vb ra rb A s hA R hV => by
 obtain ⟨t, rfl⟩ := ra.inv_str
 obtain ⟨a, vs, n, rfl, ea, rva⟩ := hL s vb R (rb.mono hV)
 exact notin_list_strs (seqObj_isList ea) (strs_of rva) (ret_here R (.bool _) h)
theorem Bin.mul_int {a b : Int} (hm : IntMulOk a b) (h : Q (.int (a * b)) σ) : Bin c .Mult (.int a) (.int b) σ Q := fun V va vb ra rb A s hA R hV => by
 obtain ⟨t, rfl⟩ := ra.inv_int; obtain ⟨u, rfl⟩ := rb.inv_int
 exact PyProof.Rows.mul_int (ret_toks R (Nat.le_succ _) (.int _ _) h) hm
end
theorem us_any (l : List U) (u : U) : ((l.map uS).any (· == uS u)) = l.contains u := by
 induction l with
 | nil => rfl
 | cons x t ih =>
  rw [List.map_cons, List.any_cons, ih, uS_eq, List.contains_cons]
  congr 1
  by_cases h : u = x
  ·subst h; simp
  ·have h2 : x ≠ u := fun e => h e.symm
   simp [h, h2]
noncomputable def tgU (b : Bool) (r : Int) : U := (tagsU b).getD (r % 6).toNat 0
noncomputable def tgN (b : Bool) (r : Int) : Nm := (tgU b r, r / 6 % 2 == 1)
noncomputable def sdK (r k : Int) : Int := r / 3072 + 5 * k
noncomputable def kyU (b : Bool) (s : Int) : U := (keysU b).getD (s % 6).toNat 0
noncomputable def kyN (b : Bool) (s : Int) : Nm := (kyU b s, s / 6 % 2 == 1)
noncomputable def alPut (al : List (Nm × Str)) (x : Nm × Str) : List (Nm × Str) := if al.any (fun y => decide (y.1 = x.1)) then al.map (fun y => if y.1 = x.1 then (y.1, x.2) else y) else al ++ [x]
noncomputable def alK (b : Bool) (r : Int) : Nat -> List (Nm × Str)
 | 0 => []
 | k + 1 => alPut (alK b r k) (kyN b (sdK r k), piece (sdK r k / 12))
noncomputable def usK (b : Bool) (r : Int) (k : Nat) : List U := tgU b r :: (List.range k).map fun k : Nat => kyU b (sdK r k)
theorem nmS_iff (m n : Nm) : (nmS m = nmS n) ↔ m = n := ⟨nm_inj, fun h => by rw [h]⟩
theorem alD_put (al : List (Nm × Str)) (x : Nm × Str) : alD (alPut al x) = sto (alD al) (nmS x.1) (.str x.2) := by
 unfold alPut sto alD
 have e : (al.map fun x => (nmS x.1, PV.str x.2)).any (fun y => decide (y.1 = nmS x.1)) = al.any (fun y => decide (y.1 = x.1)) := by
  rw [List.any_map]
  congr 1
  funext y
  simp [nmS_iff]
 rw [e]
 split
 ·rw [List.map_map, List.map_map]
  apply List.map_congr_left
  intro y _
  simp only [Function.comp, nmS_iff]
  split <;> rfl
 ·rw [List.map_append]; rfl
theorem alPut_len (al : List (Nm × Str)) (x : Nm × Str) : (alPut al x).length <= al.length + 1 := by
 unfold alPut
 split <;> simp
theorem alK_len (b : Bool) (r : Int) : ∀ k, (alK b r k).length <= k
 | 0 => Nat.le_refl _
 | k + 1 => Nat.le_trans (alPut_len _ _) (Nat.succ_le_succ (alK_len b r k))
theorem alPut_keys (al : List (Nm × Str)) (x : Nm × Str) : (alPut al x).map Prod.fst = if al.any (fun y => decide (y.1 = x.1)) then al.map Prod.fst else al.map Prod.fst ++ [x.1] := by
 unfold alPut
 split
 ·rw [List.map_map]
  apply List.map_congr_left
  intro y _
  simp only [Function.comp]
  split <;> rfl
 ·simp
theorem alPut_nodup {al : List (Nm × Str)} {x : Nm × Str} (h : (al.map Prod.fst).Nodup) : ((alPut al x).map Prod.fst).Nodup := by
 rw [alPut_keys]
 split
 ·exact h
 ·rename_i hn
  rw [List.nodup_append]
  refine ⟨h, by simp, fun a ha b hb => ?_⟩
  rw [List.mem_singleton.mp hb]
  intro e
  subst e
  obtain ⟨y, hy, e⟩ := List.mem_map.mp ha
  exact hn (List.any_eq_true.mpr ⟨y, hy, decide_eq_true e⟩)
theorem alPut_mem {al : List (Nm × Str)} {x y : Nm × Str} (h : y ∈ alPut al x) : y ∈ al \/ (y.1 = x.1 /\ y.2 = x.2) := by
 unfold alPut at h
 split at h
 ·obtain ⟨z, hz, e⟩ := List.mem_map.mp h
  split at e
  ·rename_i e2; subst e; exact .inr ⟨e2, rfl⟩
  ·subst e; exact .inl hz
 ·rcases List.mem_append.mp h with h | h
  ·exact .inl h
  ·rw [List.mem_singleton.mp h]; exact .inr ⟨rfl, rfl⟩
theorem alK_Al (b : Bool) (r : Int) {k : Nat} (hk : k <= 3) : Al (alK b r k) where
 len := Nat.le_trans (alK_len b r k) hk
 nodup := by
  clear hk
  induction k with
  | zero => exact List.nodup_nil
  | succ k ih => exact alPut_nodup ih
 short := by
  clear hk
  induction k with
  | zero => intro x hx; cases hx
  | succ k ih =>
   intro x hx
   rcases alPut_mem hx with h | ⟨_, h⟩
   ·exact ih x h
   ·rw [h]; exact Nat.le_trans (piece_len _) (by decide)
theorem alK_keys (b : Bool) (r : Int) {k : Nat} : ∀ x ∈ alK b r k, x.1.1 ∈ (List.range k).map fun k : Nat => kyU b (sdK r k) := by
 induction k with
 | zero => intro x hx; cases hx
 | succ k ih =>
  intro x hx
  rw [List.range_succ, List.map_append]
  rcases alPut_mem hx with h | ⟨h, _⟩
  ·exact memL _ (ih x h)
  ·rw [h]; exact memR _ (.head _)
theorem tags_get (b : Bool) (i : Nat) (h : i < 6) : ((tagsU b).map fun u => PV.str (uS u))[i]? = some (.str (uS ((tagsU b).getD i 0))) := by
 have hl : (tagsU b).length = 6 := rfl
 rw [List.getElem?_map, List.getD_eq_getElem?_getD, List.getElem?_eq_getElem (by lia)]
 rfl
theorem keys_get (b : Bool) (i : Nat) (h : i < 6) : ((keysU b).map fun u => PV.str (uS u))[i]? = some (.str (uS ((keysU b).getD i 0))) := by
 have hl : (keysU b).length = 6 := rfl
 rw [List.getElem?_map, List.getD_eq_getElem?_getD, List.getElem?_eq_getElem (by lia)]
 rfl
theorem ab_get (k : Int) : ([PV.str "a", .str "b"] : List PV)[(k % 2).toNat]? = some (.str (lcS (k % 2 == 1))) := by
 have hk : k % 2 = 0 \/ k % 2 = 1 := by lia
 rcases hk with h | h <;> rw [h] <;> rfl
theorem nm_cat (u : U) (l : Bool) : (if (uS u != ("" : Str)) = true then (("{" : Str) ++ uS u) ++ "}" else "") ++ lcS l = nmS (u, l) := by revert u l; decide +kernel
section
variable {c : Cx} {σ : Store} {L : Addr} {N : Store -> Prop} {R : PV -> Store -> Prop} {g1 g2 g3 g4 g5 g6 g7 g8 g9 g10 g11 g12 g13 g14 : Option PV} {script : PV} {fs : Int} {b : Bool} {oa ua pa qa da : Addr} {a : SA} {t : St} {due : List Ev} {path : List PE} {tb : Option (Addr × Obj)} {τ : Store} {m r : Int}
noncomputable def b0 : List Stmt := getIf (l := bl197.drop 1) rfl
noncomputable abbrev stS (L : Addr) (script : PV) (fs : Int) (b : Bool) (oa ua pa x : Addr) (g1 g2 g3 g4 g5 g6 g7 g8 g9 g10 g11 g12 g13 g14 : Option PV) (τ : Store) : Store := (L, .loc NW (lawV script fs b oa ua pa x g1 g2 g3 g4 g5 g6 g7 g8 g9 g10 g11 g12 g13 g14)) :: τ
theorem ls_a (B : Base c) (F : Fm (callEnv fd197 L 197) L NW)
  (h : ∀ qa da, Xs c (callEnv fd197 L 197) (b0.drop 3) (stS L script fs b oa ua pa a.x g1 g2 (some (.int r)) g4 (some (.raw (.ref qa))) (some (.str (nmS (tgN b r)))) (some (.raw (.ref da))) g8 g9 g10 g11 g12 g13 g14 ((da, .dict (alD (alK b r 0))) :: (qa, .list ((usK b r 0).map fun u => .str (uS u))) :: τ)) N R) :
  Xs c (callEnv fd197 L 197) b0 (stS L script fs b oa ua pa a.x g1 g2 (some (.int r)) g4 g5 g6 g7 g8 g9 g10 g11 g12 g13 g14 τ) N R := by
 have h6 : 0 <= r % 6 /\ r % 6 < 6 := ⟨Int.emod_nonneg _ (by decide), Int.emod_lt_of_pos _ (by decide)⟩
 have h2 : 0 <= r / 6 % 2 /\ r / 6 % 2 < 2 := ⟨Int.emod_nonneg _ (by decide), Int.emod_lt_of_pos _ (by decide)⟩
 refine Xs.cons (X.nm F (E.list (Es.cons (E.sub (E.n F (E.binop (E.n F (E.int (Bin.mod_int (by decide) (It.lst h6.1 (by lia) (tags_get b _ (by lia)) ?_))))))) rfl)))
 refine Es.nil ⟨le_sz (by show 1 <= 16777216; decide), _, _, rfl, fun qa => ⟨_, _, _, rfl, by trivial, ?_⟩⟩
 refine Xs.cons (X.nm F (E.binop ?_))
 refine E.mono (Q := fun p σ1 => p = PV.str (if (uS (tgU b r) != ("" : Str)) = true then (("{" : Str) ++ uS (tgU b r)) ++ "}" else "") /\ σ1 = stS L script fs b oa ua pa a.x g1 g2 (some (.int r)) g4 (some (.raw (.ref qa))) g6 g7 g8 g9 g10 g11 g12 g13 g14 ((qa, .list [.str (uS (tgU b r))]) :: τ)) ?_ ?_
 ·have hul := uS_len (tgU b r)
  refine E.ifexp (T.cmp (E.sub (E.n F (E.int (It.list (.tail _ (.head _)) (by decide) (by decide) rfl (E.str (Cmp.ne_str (Tr.bool ?_))))))))
  by_cases hu : (uS (tgU b r) != ("" : Str)) = true
  ·rw [if_pos hu]
   rw [if_pos (show (uS ((tagsU b).getD (r % 6).toNat 0) != ("" : Str)) = true from hu)]
   refine E.binop (E.binop (E.str (E.sub (E.n F (E.int (It.list (.tail _ (.head _)) (by decide) (by decide) rfl (Bin.add_str ?_ (E.str (Bin.add_str ?_ ⟨rfl, rfl⟩)))))))))
   ·rw [sizeLine_eq]; show 1 + (uS (tgU b r)).length <= _; lia
   ·rw [sizeLine_eq, str_len_append]; show 1 + (uS (tgU b r)).length + 1 <= _; lia
  ·rw [if_neg hu]
   rw [if_neg (show ¬ (uS ((tagsU b).getD (r % 6).toNat 0) != ("" : Str)) = true from hu)]
   exact E.str ⟨rfl, rfl⟩
 ·rintro p σ1 ⟨rfl, rfl⟩
  refine E.sub (E.lst (Es.strC (Es.strC (Es.nil ⟨le_sz (by show 2 <= 16777216; decide), ?_⟩))))
  refine E.binop (E.binop (E.n F (E.int (Bin.floordiv_int (by decide) (smallDiv _ (by decide)) (E.int (Bin.mod_int (by decide) (It.lst h2.1 (by lia) (ab_get _) ?_)))))))
  refine Bin.add_str ?_ ?_
  ·have hul := uS_len (tgU b r)
   rw [sizeLine_eq, lc_len]
   split
   ·rw [str_len_append, str_len_append]; show 1 + (uS (tgU b r)).length + 1 + 1 <= _; lia
   ·exact (by decide : 0 + 1 <= 16777216)
  rw [nm_cat]
  refine ⟨_, _, _, rfl, by trivial, ?_⟩
  refine Xs.cons (X.nm F (E.dict0 rfl fun da => ⟨_, _, _, rfl, by trivial, ?_⟩))
  exact h qa da
theorem ls_b (B : Base c) (hd : c.d < recursionLimit) (F : Fm (callEnv fd197 L 197) L NW)
  (h : ∀ g8 g9 g10, Xs c (callEnv fd197 L 197) (b0.drop 4) (stS L script fs b oa ua pa a.x g1 g2 (some (.int r)) g4 (some (.raw (.ref qa))) g6 (some (.raw (.ref da))) g8 g9 g10 g11 g12 g13 g14 ((da, .dict (alD (alK b r (r / 12 % 4).toNat))) :: (qa, .list ((usK b r (r / 12 % 4).toNat).map fun u => .str (uS u))) :: τ)) N R) :
  Xs c (callEnv fd197 L 197) (b0.drop 3) (stS L script fs b oa ua pa a.x g1 g2 (some (.int r)) g4 (some (.raw (.ref qa))) g6 (some (.raw (.ref da))) g8 g9 g10 g11 g12 g13 g14 ((da, .dict (alD (alK b r 0))) :: (qa, .list ((usK b r 0).map fun u => .str (uS u))) :: τ)) N R := by
 have h4 : 0 <= r / 12 % 4 /\ r / 12 % 4 < 4 := ⟨Int.emod_nonneg _ (by decide), Int.emod_lt_of_pos _ (by decide)⟩
 refine Xs.cons (X.for (E.postP (E.call (E.globB (v := .type "range") B rfl rfl rfl rfl (by kernel_rfl) rfl ⟨_, rfl, Es.cons (E.binop (E.binop (E.n F (E.int (Bin.floordiv_int (by decide) (smallDiv _ (by decide)) (E.int (Bin.mod_int (by decide) ?_))))))) rfl⟩))))
 refine Es.nil ⟨.type, Ca.range1 fun rg => ?_⟩
 refine ⟨_, _, .refl _, .refl _, ?_⟩
 refine ⟨rgL 0 (r / 12 % 4), _, fun k σ' => ∃ g8 g9 g10, σ' = stS L script fs b oa ua pa a.x g1 g2 (some (.int r)) g4 (some (.raw (.ref qa))) g6 (some (.raw (.ref da))) g8 g9 g10 g11 g12 g13 g14 ((da, .dict (alD (alK b r k))) :: (qa, .list ((usK b r k).map fun u => .str (uS u))) :: (τ ++ [(rg, .that (IsRg 0 (r / 12 % 4)))])), Itb.range (memR _ (.head _)) (by lia) (by lia) (by lia) (by lia), ⟨g8, g9, g10, rfl⟩, fun _ _ _ => trivial, ?_, ?_⟩
 ·rintro Fr β hb k q' _ hq ⟨g8, g9, g10, rfl⟩
  have hk : k < (r / 12 % 4 - 0).toNat /\ q' = .int (0 + (k : Nat)) := by
   unfold rgL at hq
   rw [List.getElem?_map] at hq
   obtain ⟨z, hz, rfl⟩ := Option.map_eq_some_iff.mp hq
   obtain ⟨h1, h2⟩ := List.getElem?_eq_some_iff.mp hz
   rw [List.length_range] at h1
   rw [List.getElem_range] at h2
   subst h2
   exact ⟨h1, rfl⟩
  obtain ⟨hk1, rfl⟩ := hk
  rw [Int.zero_add]
  have B2 : Base (c.ext Fr β) := B.ext hb
  obtain ⟨s, hs⟩ : ∃ s, s = sdK r k := ⟨_, rfl⟩
  have h6 : 0 <= s % 6 /\ s % 6 < 6 := ⟨Int.emod_nonneg _ (by decide), Int.emod_lt_of_pos _ (by decide)⟩
  have h2 : 0 <= s / 6 % 2 /\ s / 6 % 2 < 2 := ⟨Int.emod_nonneg _ (by decide), Int.emod_lt_of_pos _ (by decide)⟩
  have hal := alK_len b r k
  have hus : usK b r (k + 1) = usK b r k ++ [kyU b s] := by rw [hs]; unfold usK; rw [List.range_succ, List.map_append]; rfl
  have hal' : alD (alK b r (k + 1)) = sto (alD (alK b r k)) (nmS (kyN b s)) (.str (piece (s / 12))) := by rw [hs]; exact alD_put _ _
  have hul := uS_len (kyU b s)
  refine Asg.name F.lo F.loc (by trivial) ?_
  refine Xs.cons (X.nm F (E.binop (E.binop (E.n F (E.int (Bin.floordiv_int (by decide) (smallDiv _ (by decide)) (E.binop (E.int (E.n F (Bin.mul_int (.of_left (by decide +kernel)) (Bin.add_int ?_)))))))))))
  refine ⟨_, _, _, rfl, by trivial, ?_⟩
  rw [show r / 3072 + 5 * (k : Int) = s from hs.symm]
  refine Xs.cons (X.expr (E.meth (E.n F (Gm.append (.tail _ (.tail _ (.head _))) (Es.cons (E.sub (E.n F (E.binop (E.n F (E.int (Bin.mod_int (by decide) (It.lst h6.1 (by lia) (keys_get b _ (by lia)) ?_))))))) rfl))) rfl))
  refine Es.nil ⟨.builtin, Ca.append (.tail (.tail .head)) (by rw [lnM]; unfold usK; simp only [List.length_cons, lnM, List.length_range]; exact le_sz (by lia)) ?_⟩
  refine Xs.cons (X.nm F (E.binop ?_))
  refine E.mono (Q := fun p σ1 => p = PV.str (if (uS (kyU b s) != ("" : Str)) = true then (("{" : Str) ++ uS (kyU b s)) ++ "}" else "") /\ σ1 = stS L script fs b oa ua pa a.x g1 g2 (some (.int r)) g4 (some (.raw (.ref qa))) g6 (some (.raw (.ref da))) (some (.int k)) (some (.int s)) g10 g11 g12 g13 g14 ((da, .dict (alD (alK b r k))) :: (qa, .list (((usK b r k).map fun u => .str (uS u)) ++ [.str (uS (kyU b s))])) :: (τ ++ [(rg, .that (IsRg 0 (r / 12 % 4)))]))) ?_ ?_
  ·refine E.ifexp (T.cmp (E.sub (E.n F (E.neg (It.last (.tail _ (.tail _ (.head _))) (E.str (Cmp.ne_str (Tr.bool ?_))))))))
   by_cases hu : (uS (kyU b s) != ("" : Str)) = true
   ·rw [if_pos hu]
    rw [if_pos (show (uS ((keysU b).getD (s % 6).toNat 0) != ("" : Str)) = true from hu)]
    refine E.binop (E.binop (E.str (E.sub (E.n F (E.neg (It.last (.tail _ (.tail _ (.head _))) (Bin.add_str ?_ (E.str (Bin.add_str ?_ ⟨rfl, rfl⟩)))))))))
    ·rw [sizeLine_eq]; show 1 + (uS (kyU b s)).length <= _; lia
    ·rw [sizeLine_eq, str_len_append]; show 1 + (uS (kyU b s)).length + 1 <= _; lia
   ·rw [if_neg hu]
    rw [if_neg (show ¬ (uS ((keysU b).getD (s % 6).toNat 0) != ("" : Str)) = true from hu)]
    exact E.str ⟨rfl, rfl⟩
  ·rintro p σ1 ⟨rfl, rfl⟩
   refine E.sub (E.lst (Es.strC (Es.strC (Es.nil ⟨le_sz (by show 2 <= 16777216; decide), ?_⟩))))
   refine E.binop (E.binop (E.n F (E.int (Bin.floordiv_int (by decide) (smallDiv _ (by decide)) (E.int (Bin.mod_int (by decide) (It.lst h2.1 (by lia) (ab_get _) ?_)))))))
   refine Bin.add_str ?_ ?_
   ·rw [sizeLine_eq, lc_len]
    split
    ·rw [str_len_append, str_len_append]; show 1 + (uS (kyU b s)).length + 1 + 1 <= _; lia
    ·exact (by decide : 0 + 1 <= 16777216)
   rw [nm_cat]
   refine ⟨_, _, _, rfl, by trivial, ?_⟩
   refine Xs.cons (X.setitem (E.call (E.globK (v := .ref 173) B2 rfl rfl rfl (by kernel_rfl) ⟨_, rfl, Es.cons (E.binop (E.n F (E.int (Bin.floordiv_int (by decide) (smallDiv _ (by decide)) ?_)))) rfl⟩)))
   refine Es.nil ⟨.fn B2 (at173 _), Ca173 B2 hd ?_⟩
   refine E.n F (E.n F (SetI.dict (.tail .head) (by unfold alD; rw [lnM]; exact le_sz (by lia)) (Xs.nil ?_)))
   refine ⟨some (.int k), some (.int s), some (.str (nmS (kyN b s))), ?_⟩
   rw [hal', hus, List.map_append]
   rfl
 ·rintro _ ⟨g8, g9, g10, rfl⟩
  have e : (rgL 0 (r / 12 % 4)).length = (r / 12 % 4).toNat := by unfold rgL; rw [lnM, List.length_range, Int.sub_zero]
  rw [e]
  refine Xs.drop (σ' := stS L script fs b oa ua pa a.x g1 g2 (some (.int r)) g4 (some (.raw (.ref qa))) g6 (some (.raw (.ref da))) g8 g9 g10 g11 g12 g13 g14 ((da, .dict (alD (alK b r (r / 12 % 4).toNat))) :: (qa, .list ((usK b r (r / 12 % 4).toNat).map fun u => .str (uS u))) :: τ)) ?_ (h g8 g9 g10)
  exact .cons_cons _ (.cons_cons _ (.cons_cons _ (List.sublist_append_left _ _)))
end
noncomputable def gP (path : List PE) : PV -> List PV
 | .tup [_, .raw (.ref la)] => match path.find? (fun e => e.la == la) with
  | some e => e.told.map fun u => .str (uS u)
  | none => []
 | _ => []
theorem gP_at {path : List PE} (hn : (path.map PE.la).Nodup) : ∀ e ∈ path, gP path (peP e) = e.told.map fun u => .str (uS u) := by
 intro e he
 show (match path.find? (fun e' => e'.la == e.la) with | some e => e.told.map (fun u => PV.str (uS u)) | none => []) = _
 have : path.find? (fun e' => e'.la == e.la) = some e := by
  induction path with
  | nil => cases he
  | cons x t ih =>
   rw [List.find?_cons]
   rw [List.map_cons, List.nodup_cons] at hn
   rcases List.mem_cons.mp he with rfl | h
   ·simp
   ·have : x.la ≠ e.la := fun q => hn.1 (by rw [q]; exact List.mem_map_of_mem h)
    rw [show (x.la == e.la) = false by simpa using this]
    exact ih hn.2 h
 rw [this]
noncomputable def scU (path : List PE) : List U := path.flatMap PE.told
theorem gP_all {path : List PE} (hn : (path.map PE.la).Nodup) : (path.map peP).flatMap (gP path) = (scU path).map fun u => .str (uS u) := by
 have h := gP_at hn
 unfold scU
 have : ∀ l : List PE, (∀ e ∈ l, gP path (peP e) = e.told.map fun u => .str (uS u)) -> (l.map peP).flatMap (gP path) = (l.flatMap PE.told).map fun u => .str (uS u) := by
  intro l
  induction l with
  | nil => intro _; rfl
  | cons x t ih =>
   intro hl
   rw [List.map_cons, List.flatMap_cons, List.flatMap_cons, List.map_append, ih (fun e he => hl e (.tail _ he)), hl x (.head _)]
 exact this path h
section
variable {c : Cx} {σ : Store} {L : Addr} {N : Store -> Prop} {R : PV -> Store -> Prop} {g1 g2 g3 g4 g5 g6 g7 g8 g9 g10 g11 g12 g13 g14 : Option PV} {script : PV} {fs : Int} {b : Bool} {oa ua pa qa da : Addr} {a : SA} {t : St} {due : List Ev} {path : List PE} {tb : Option (Addr × Obj)} {τ : Store} {m r : Int} {n0 : Nm} {al : List (Nm × Str)} {us : List U}
theorem ls_c (B : Base c) (F : Fm (callEnv fd197 L 197) L NW) (hl : path.length <= 1000) (hz : (scU path).length <= 100000)
  (h : ∀ sa ta, Xs c (callEnv fd197 L 197) (b0.drop 6) (stS L script fs b oa ua pa a.x g1 g2 g3 g4 g5 (some (.str (nmS n0))) g7 g8 g9 g10 (some (.raw (.ref sa))) g12 g13 g14 ((ta, .list []) :: (da, .dict (alD al)) :: (qa, .list (us.map fun u => .str (uS u))) :: (ua, .list (due.map evP)) :: (pa, .list (path.map peP ++ [.tup [.str (nmS n0), .raw (.ref ta)]])) :: (path.map peC ++ (Sf a t ++ (tbS tb ++ (σ ++ [(sa, .list ((scU path).map fun u => .str (uS u)))])))))) N R) :
  Xs c (callEnv fd197 L 197) (b0.drop 4) (stS L script fs b oa ua pa a.x g1 g2 g3 g4 g5 (some (.str (nmS n0))) g7 g8 g9 g10 g11 g12 g13 g14 ((da, .dict (alD al)) :: (qa, .list (us.map fun u => .str (uS u))) :: lwT ua pa a t due path tb σ)) N R := by
 refine Xs.nodup fun nd => ?_
 have hnd : (path.map PE.la).Nodup := by
  have h1 : (addrs (path.map peC)).Nodup := by
   refine nd.sublist ?_
   refine List.Sublist.map _ ?_
   exact .cons _ (.cons _ (.cons _ (.cons _ (.cons _ (List.sublist_append_left _ _)))))
  have : addrs (path.map peC) = path.map PE.la := by
   unfold addrs
   rw [List.map_map]
   rfl
  rw [<- this]; exact h1
 have hpc : ∀ e ∈ path, peC e ∈ stS L script fs b oa ua pa a.x g1 g2 g3 g4 g5 (some (.str (nmS n0))) g7 g8 g9 g10 g11 g12 g13 g14 ((da, .dict (alD al)) :: (qa, .list (us.map fun u => .str (uS u))) :: lwT ua pa a t due path tb σ) := fun e he =>
  .tail _ (.tail _ (.tail _ (.tail _ (.tail _ (memL _ (List.mem_map_of_mem he))))))
 refine Xs.cons (X.comp2 (ns := ["one", "told", "uri"]) (cl := []) (CompOk.of (closureFor_nil (by decide +kernel)) (by decide +kernel) rfl (by kernel_rfl) (by decide) rfl) F.lo F.loc ?_)
 refine E.n F ?_
 refine ⟨path.map peP, _, gP path, _, fun D => _, _, Itb.list (.tail _ (.tail _ (.tail _ (.tail _ (.head _))))), fun σ' hσ => hσ _ (.tail _ (.tail _ (.tail _ (.tail _ (.head _))))), by rw [gP_all hnd, lnM]; exact le_sz (by lia), ?_, rfl, fun D => ⟨by trivial, ?_⟩⟩
 ·intro F' β' hb C q vs hq hvs
  obtain ⟨v1, v2, v3, rfl⟩ := len3 hvs
  obtain ⟨e, he, rfl⟩ := List.mem_map.mp hq
  refine Asg.tuple (Asg.name (CompOk.lo (CompOk.of (closureFor_nil (by decide +kernel)) (by decide +kernel) rfl (by kernel_rfl) (by decide) rfl) C) rfl .head (Asg.name (CompOk.lo (CompOk.of (closureFor_nil (by decide +kernel)) (by decide +kernel) rfl (by kernel_rfl) (by decide) rfl) C) rfl (.tail .head) ⟨_, rfl, rfl, ?_, ?_⟩)) rfl
  ·refine E.lk (CompOk.lo (CompOk.of (closureFor_nil (by decide +kernel)) (by decide +kernel) rfl (by kernel_rfl) (by decide) rfl) C) (.head _) (.tail .head) ⟨rfl, ?_⟩
   rw [gP_at hnd e he]
   exact .inr ⟨e.la, rfl, hpc e he⟩
  ·intro F2 β2 hb2 C2 q2 vs2 hq2 hvs2
   obtain ⟨w1, w2, w3, rfl⟩ := len3 hvs2
   refine Asg.name (CompOk.lo (CompOk.of (closureFor_nil (by decide +kernel)) (by decide +kernel) rfl (by kernel_rfl) (by decide) rfl) C2) rfl (.tail (.tail .head)) ⟨_, rfl, rfl, fun V => tests_nil fun _ _ => ⟨rfl, rfl⟩, fun _ => ?_⟩
   exact E.lk (CompOk.lo (CompOk.of (closureFor_nil (by decide +kernel)) (by decide +kernel) rfl (by kernel_rfl) (by decide) rfl) C2) (.head _) (.tail (.tail .head)) ⟨rfl, rfl⟩
 ·rw [gP_all hnd]
  refine Xs.cons (X.expr (E.meth (E.n F (Gm.append (.tail _ (.tail _ (.tail _ (.tail _ (.head _))))) ?_)) rfl))
  refine Es.cons (E.tuple (Es.cons (E.n F (Es.cons (E.list (Es.nil ⟨le_sz (by show 0 <= 16777216; decide), _, _, rfl, fun ta => ?_⟩)) rfl)) rfl)) rfl
  refine Es.nil ⟨le_sz (by show 2 <= 16777216; decide), Es.nil ⟨.builtin, Ca.append (.tail (.tail (.tail (.tail (.tail .head))))) (by rw [lnM]; exact le_sz (by lia)) ?_⟩⟩
  refine Xs.perm (.of_eq ?_) (h D ta)
  simp only [List.append_eq, List.append_assoc]
end
noncomputable def ownK (k : Nat) : U := ownU.getD k 0
noncomputable def prK (b : Bool) (r : Int) (k : Nat) : Px := ((prefP b).getD k []).getD (r / 384 / 2 ^ k % 2).toNat 0
noncomputable def cnd (r : Int) (us sc : List U) (k : Nat) : Bool := (r / 48 / 2 ^ k % 2 == 1) || (us.contains (ownK k) && !(sc.contains (ownK k)))
noncomputable def nsJ (b : Bool) (r : Int) (us sc : List U) (t : St) : Nat -> St × List U
 | 0 => (t, [])
 | k + 1 => if cnd r us sc k = true then (nsSt (nsJ b r us sc t k).1 (ownK k, prK b r k), (nsJ b r us sc t k).2 ++ [ownK k]) else nsJ b r us sc t k
theorem own_get {k : Nat} (h : k < 3) : (ownU.map fun u => PV.str (uS u))[k]? = some (.str (uS (ownK k))) := by
 unfold ownK
 rw [List.getElem?_map, List.getD_eq_getElem?_getD, List.getElem?_eq_getElem (show k < ownU.length from h)]
 rfl
theorem pref_get (b : Bool) {k : Nat} (h : k < 3) : ((prefP b).map fun r => PV.lst (r.map fun p => .str (pS p)))[k]? = some (.lst (((prefP b).getD k []).map fun p => .str (pS p))) := by
 rw [List.getElem?_map, List.getD_eq_getElem?_getD, List.getElem?_eq_getElem (show k < (prefP b).length from h)]
 rfl
theorem pref_get2 (b : Bool) {k i : Nat} (h : k < 3) (hi : i < 2) : (((prefP b).getD k []).map fun p => PV.str (pS p))[i]? = some (.str (pS (((prefP b).getD k []).getD i 0))) := by
 have hl : ((prefP b).getD k []).length = 2 := (show ∀ b, ∀ k, k < 3 -> ((prefP b).getD k []).length = 2 by decide +kernel) b k h
 generalize (prefP b).getD k [] = l at hl ⊢
 rw [List.getElem?_map, List.getD_eq_getElem?_getD, List.getElem?_eq_getElem (hl ▸ hi)]
 rfl
theorem pow_ok {k : Nat} (h : k < 3) : (0 : Int) < 2 ^ k /\ ((2 : Int) ^ k).natAbs.log2 / 30 + 1 <= 300 /\ (Builtin.Int.intBits 2 : Int) * (k : Int) <= 2 ^ 27 := by
 match k, h with
 | 0, _ => exact ⟨by decide, by decide, by decide +kernel⟩
 | 1, _ => exact ⟨by decide, by decide, by decide +kernel⟩
 | 2, _ => exact ⟨by decide, by decide, by decide +kernel⟩
theorem K_sns (P : Params) : findIn (KK P) (.ref TC) "start_ns" = some (some (.ref 106)) := by kernel_rfl
theorem K_106 (P : Params) : typeIn (KK P) (.ref 106) = some (.type "function") := by kernel_rfl
section
variable {c : Cx} {σ : Store} {L : Addr} {N : Store -> Prop} {R : PV -> Store -> Prop} {g1 g2 g3 g4 g5 g6 g7 g8 g9 g10 g11 g12 g13 g14 : Option PV} {script : PV} {fs : Int} {b : Bool} {oa ua pa qa da sa ta : Addr} {a : SA} {t : St} {due : List Ev} {path : List PE} {tb : Option (Addr × Obj)} {τ : Store} {m r : Int} {n0 : Nm} {al : List (Nm × Str)} {us sc told : List U}
noncomputable abbrev ksT (ua pa qa da ta : Addr) (a : SA) (t : St) (due : List Ev) (path : List PE) (n0 : Nm) (al : List (Nm × Str)) (us told : List U) (X : Store) : Store :=
 (ta, .list (told.map fun u => .str (uS u))) :: (da, .dict (alD al)) :: (qa, .list (us.map fun u => .str (uS u))) :: (ua, .list (due.map evP)) :: (pa, .list (path.map peP ++ [.tup [.str (nmS n0), .raw (.ref ta)]])) :: (path.map peC ++ (Sf a t ++ X))
theorem Xs.gen {c : Cx} {env : Env} {b : List Stmt} {σ : Store} {N : Store -> Prop} {R : PV -> Store -> Prop} (h : ∀ N' : Store -> Prop, (∀ σ', N σ' -> N' σ') -> Xs c env b σ N' R) : Xs c env b σ N R := h N fun _ h => h
noncomputable def if84 : List Stmt := getIf (l := getFo (l := b0.drop 6) rfl) rfl
theorem ls_d (B : Base c) (S : Tg c a) (hd : c.d + 3 < recursionLimit) (F : Fm (callEnv fd197 L 197) L NW) (hsa : (sa, Cell.list (sc.map fun u => .str (uS u))) ∈ τ)
  (hok : ∀ k, k < 3 -> Ok2 (nsJ b r us sc t k).1 /\ (nsJ b r us sc t k).1.N ≠ [] /\ (flat (nsJ b r us sc t k).1.N).length <= 4000)
  (h : ∀ g8, Xs c (callEnv fd197 L 197) (b0.drop 7) (stS L script fs b oa ua pa a.x g1 g2 (some (.int r)) g4 (some (.raw (.ref qa))) (some (.str (nmS n0))) g7 g8 g9 g10 (some (.raw (.ref sa))) g12 g13 g14 (ksT ua pa qa da ta a (nsJ b r us sc t 3).1 due path n0 al us (nsJ b r us sc t 3).2 τ)) N R) :
  Xs c (callEnv fd197 L 197) (b0.drop 6) (stS L script fs b oa ua pa a.x g1 g2 (some (.int r)) g4 (some (.raw (.ref qa))) (some (.str (nmS n0))) g7 g8 g9 g10 (some (.raw (.ref sa))) g12 g13 g14 (ksT ua pa qa da ta a t due path n0 al us [] τ)) N R := by
 have hnsl : ∀ k, (nsJ b r us sc t k).2.length <= k := by
  intro k
  induction k with
  | zero => exact Nat.le_refl _
  | succ k ih =>
   show (if cnd r us sc k = true then _ else _ : St × List U).2.length <= _
   split
   ·rw [List.length_append]; simpa using ih
   ·lia
 refine Xs.cons (X.for (E.postP (E.call (E.globB (v := .type "range") B rfl rfl rfl rfl (by kernel_rfl) rfl ⟨_, rfl, Es.cons (E.int ?_) rfl⟩))))
 refine Es.nil ⟨.type, Ca.range1 fun rg => ?_⟩
 refine ⟨_, _, .refl _, .refl _, ?_⟩
 refine ⟨rgL 0 3, _, fun k σ' => ∃ g8, σ' = stS L script fs b oa ua pa a.x g1 g2 (some (.int r)) g4 (some (.raw (.ref qa))) (some (.str (nmS n0))) g7 g8 g9 g10 (some (.raw (.ref sa))) g12 g13 g14 (ksT ua pa qa da ta a (nsJ b r us sc t k).1 due path n0 al us (nsJ b r us sc t k).2 (τ ++ [(rg, .that (IsRg 0 3))])), Itb.range (memR _ (.head _)) (by lia) (by lia) (by lia) (by lia), ⟨g8, ?_⟩, fun _ _ _ => trivial, ?_, ?_⟩
 ·show _ = stS L script fs b oa ua pa a.x g1 g2 (some (.int r)) g4 (some (.raw (.ref qa))) (some (.str (nmS n0))) g7 g8 g9 g10 (some (.raw (.ref sa))) g12 g13 g14 (ksT ua pa qa da ta a t due path n0 al us [] (τ ++ [(rg, .that (IsRg 0 3))]))
  simp only [List.cons_append, List.append_assoc]
 ·rintro Fr β hb k q' _ hq ⟨g8, rfl⟩
  have hk : k < 3 /\ q' = .int (0 + (k : Nat)) := by
   unfold rgL at hq
   rw [List.getElem?_map] at hq
   obtain ⟨z, hz, rfl⟩ := Option.map_eq_some_iff.mp hq
   obtain ⟨h1, h2⟩ := List.getElem?_eq_some_iff.mp hz
   rw [List.length_range] at h1
   rw [List.getElem_range] at h2
   subst h2
   exact ⟨h1, rfl⟩
  obtain ⟨hk1, rfl⟩ := hk
  rw [Int.zero_add]
  have B2 : Base (c.ext Fr β) := B.ext hb
  have S2 : Tg (c.ext Fr β) a := S.ext hb
  obtain ⟨hp1, hp2, hp3⟩ := pow_ok hk1
  obtain ⟨ok1, ok2, ok3⟩ := hok k hk1
  have hnl := hnsl k
  generalize hT : nsJ b r us sc t k = Z at ok1 ok2 ok3 hnl
  have hsucc : nsJ b r us sc t (k + 1) = if cnd r us sc k = true then (nsSt Z.1 (ownK k, prK b r k), Z.2 ++ [ownK k]) else Z := by rw [<- hT]; rfl
  have hkn : ((k : Int)).toNat = k := Int.toNat_natCast k
  have h2 : 0 <= r / 384 / 2 ^ k % 2 /\ r / 384 / 2 ^ k % 2 < 2 := ⟨Int.emod_nonneg _ (by decide), Int.emod_lt_of_pos _ (by decide)⟩
  refine Asg.name F.lo F.loc (by trivial) ?_
  have hd2 : (c.ext Fr β).d + 3 < recursionLimit := hd
  generalize c.ext Fr β = c2 at B2 S2 hd2 ⊢
  refine Xs.gen fun N' hN => ?_
  have go : cnd r us sc k = true -> Xs c2 (callEnv fd197 L 197) if84 (stS L script fs b oa ua pa a.x g1 g2 (some (.int r)) g4 (some (.raw (.ref qa))) (some (.str (nmS n0))) g7 (some (.int k)) g9 g10 (some (.raw (.ref sa))) g12 g13 g14 (ksT ua pa qa da ta a Z.1 due path n0 al us Z.2 (τ ++ [(rg, .that (IsRg 0 3))]))) N' R := fun hc => by
   refine Xs.cons (X.expr (E.meth (E.n F (Gm.cls B2 S2 (.tail _ (.tail _ (.tail _ (.tail _ (.tail _ (.tail _ (memR _ (memL _ Sf_inst)))))))) (by decide) (K_sns _) (K_106 _) ?_)) rfl))
   refine Es.cons (E.sub (E.sub (E.nm F (by trivial) (E.nm F (by trivial) (It.lst (by lia) (by lia) (by rw [hkn]; exact pref_get b hk1) ?_))))) rfl
   refine E.binop (E.binop (E.binop (E.n F (E.int (Bin.floordiv_int (by decide) (smallDiv _ (by decide)) (E.binop (E.int (E.n F (Bin.pow_int (by lia) hp3 ?_)))))))))
   rw [hkn]
   refine Bin.floordiv_int hp1 (smallDiv _ hp2) (E.int (Bin.mod_int (by decide) (It.lst h2.1 (by lia) (pref_get2 b hk1 (by lia)) ?_)))
   refine Es.cons (E.sub (E.nm F (by trivial) (E.nm F (by trivial) (It.lst (by lia) (by lia) (by rw [hkn]; exact own_get hk1) ?_)))) rfl
   refine Es.nil ⟨.fn B2 (at106 _), ?_⟩
   refine Ca106 (pre := (L, _) :: (ta, _) :: (da, _) :: (qa, _) :: (ua, _) :: (pa, _) :: path.map peC) B2 S2 hd2 ok1 ok2 ok3 ?_
   refine Xs.cons (X.expr (E.meth (E.sub (E.sub (E.n F (E.neg (It.last (p := .tup [.str (nmS n0), .raw (.ref ta)]) (.tail _ (.tail _ (.tail _ (.tail _ (.tail _ (.head _)))))) (E.int (It.tup (j := 1) (p := .raw (.ref ta)) (by decide) (by decide) rfl rfl ?_)))))) ) rfl))
   refine Gm.append (l := Z.2.map fun u => .str (uS u)) (.tail _ (.head _)) (Es.cons (E.sub (E.nm F (by trivial) (E.nm F (by trivial) (It.lst (by lia) (by lia) (by rw [hkn]; exact own_get hk1) ?_)))) rfl)
   refine Es.nil ⟨.builtin, Ca.append (.tail .head) (by rw [lnM]; exact le_sz (by lia)) (Xs.nil (hN _ ⟨some (.int k), ?_⟩))⟩
   rw [hsucc, if_pos hc]
   unfold ksT
   rw [List.map_append]
   rfl
  have no : cnd r us sc k = false -> ∃ g8, stS L script fs b oa ua pa a.x g1 g2 (some (.int r)) g4 (some (.raw (.ref qa))) (some (.str (nmS n0))) g7 (some (.int k)) g9 g10 (some (.raw (.ref sa))) g12 g13 g14 (ksT ua pa qa da ta a Z.1 due path n0 al us Z.2 (τ ++ [(rg, .that (IsRg 0 3))])) = stS L script fs b oa ua pa a.x g1 g2 (some (.int r)) g4 (some (.raw (.ref qa))) (some (.str (nmS n0))) g7 g8 g9 g10 (some (.raw (.ref sa))) g12 g13 g14 (ksT ua pa qa da ta a (nsJ b r us sc t (k + 1)).1 due path n0 al us (nsJ b r us sc t (k + 1)).2 (τ ++ [(rg, .that (IsRg 0 3))])) := fun hc => by
   rw [hsucc, if_neg (by simp [hc])]
   exact ⟨_, rfl⟩
  refine Xs.cons (X.iff (T.or (or_cons (T.cmp ?_))))
  refine E.binop (E.binop (E.binop (E.n F (E.int (Bin.floordiv_int (by decide) (smallDiv _ (by decide)) (E.binop (E.int (E.n F (Bin.pow_int (by lia) hp3 ?_)))))))))
  rw [hkn]
  refine Bin.floordiv_int hp1 (smallDiv _ hp2) (E.int (Bin.mod_int (by decide) (E.int (Cmp.eq_int (Tr.bool ?_)))))
  by_cases hc1 : (r / 48 / 2 ^ k % 2 == 1) = true
  ·rw [if_pos hc1, if_pos rfl]
   exact (go (by unfold cnd; rw [hc1]; rfl)).mono (fun σ' hh => Xs.nil hh) fun _ _ hh => hh
  ·rw [if_neg hc1]
   refine or_cons (T.and (and_cons (T.cmp (E.sub (E.nm F (by trivial) (E.nm F (by trivial) (It.lst (by lia) (by lia) (by rw [hkn]; exact own_get hk1) (E.nm F (by trivial) (Cmp.in_strs (ys := us.map uS) (by rw [List.map_map]; exact LV.list (.tail _ (.tail _ (.tail _ (.head _))))) (Tr.bool ?_))))))))))
   rw [us_any]
   by_cases hc2 : us.contains (ownK k) = true
   ·rw [if_pos hc2]
    refine and_cons (T.cmp (E.sub (E.nm F (by trivial) (E.nm F (by trivial) (It.lst (by lia) (by lia) (by rw [hkn]; exact own_get hk1) (E.nm F (by trivial) (Cmp.notin_strs (ys := sc.map uS) (by rw [List.map_map]; exact LV.list (.tail _ (.tail _ (.tail _ (.tail _ (.tail _ (.tail _ (memR _ (memR _ (memL _ hsa)))))))))) (Tr.bool ?_))))))))
    rw [us_any]
    by_cases hc3 : sc.contains (ownK k) = true
    ·rw [if_neg (by simp only [hc3]; decide), if_neg (by decide)]
     refine or_nil ?_
     rw [if_neg (by decide)]
     exact Xs.nil (Xs.nil (hN _ (no (by unfold cnd; simp only [hc3]; simpa using hc1))))
    ·rw [if_pos (by simp only [Bool.not_eq_true] at hc3; simp only [hc3]; decide)]
     refine and_nil ?_
     rw [if_pos rfl, if_pos rfl]
     exact (go (by unfold cnd; simp only [Bool.not_eq_true] at hc3; simp only [hc2, hc3]; simp)).mono (fun σ' hh => Xs.nil hh) fun _ _ hh => hh
   ·rw [if_neg hc2, if_neg (by decide)]
    refine or_nil ?_
    rw [if_neg (by decide)]
    exact Xs.nil (Xs.nil (hN _ (no (by unfold cnd; simp only [Bool.not_eq_true] at hc2 hc1; simp only [hc2, hc1]; simp))))
 ·rintro _ ⟨g8, rfl⟩
  refine Xs.drop (σ' := stS L script fs b oa ua pa a.x g1 g2 (some (.int r)) g4 (some (.raw (.ref qa))) (some (.str (nmS n0))) g7 g8 g9 g10 (some (.raw (.ref sa))) g12 g13 g14 (ksT ua pa qa da ta a (nsJ b r us sc t 3).1 due path n0 al us (nsJ b r us sc t 3).2 τ)) ?_ (h g8)
  exact .cons_cons _ (.cons_cons _ (.cons_cons _ (.cons_cons _ (.cons_cons _ (.cons_cons _ ((List.Sublist.refl _).append ((List.Sublist.refl _).append (List.sublist_append_left _ _))))))))
end
theorem K_st1 (P : Params) : findIn (KK P) (.ref TC) "start" = some (some (.ref 113)) := by kernel_rfl
theorem K_113 (P : Params) : typeIn (KK P) (.ref 113) = some (.type "function") := by kernel_rfl
noncomputable def alE (al : List (Nm × Str)) : List (Str × Str) := (alS al).map fun x => (nmS x.1, x.2)
theorem perm_st {α : Type} (L ea ta da qa ua pa sa : α) (P S T σ : List α) : (ea :: da :: qa :: sa :: L :: ua :: pa :: ((P ++ [ta]) ++ (S ++ (T ++ σ)))).Perm (L :: ea :: ta :: da :: qa :: ua :: pa :: (P ++ (S ++ (T ++ (σ ++ [sa]))))) :=
 by rw [List.append_assoc]; exact permI [[L], [ea], [ta], [da], [qa], [ua], [pa], P, S, T, σ, [sa]] [1, 3, 4, 11, 0, 5, 6, 7, 2, 8, 9, 10] 12 (by decide +kernel) rfl
section
variable {c : Cx} {σ : Store} {L : Addr} {N : Store -> Prop} {R : PV -> Store -> Prop} {g1 g2 g3 g4 g5 g6 g7 g8 g9 g10 g11 g12 g13 g14 : Option PV} {script : PV} {fs : Int} {b : Bool} {oa ua pa qa da sa ta : Addr} {a : SA} {t : St} {due : List Ev} {path : List PE} {tb : Option (Addr × Obj)} {τ : Store} {m r : Int} {n0 : Nm} {al : List (Nm × Str)} {us sc told : List U} {ps' : List Bool} {bp : Bool}
theorem ls_e (B : Base c) (S : Tg c a) (hu : c.u < 6000) (hd : c.d + 6 < recursionLimit) (F : Fm (callEnv fd197 L 197) L NW) (ok : Ok2 t) (hA : Al al) (htb : tabOk lamQ tb) (hps : t.ps = ps' ++ [bp]) (hpl : t.ps.length <= 1000) (hol : t.out.length <= 9000) (hNl : t.N.length <= 1000) (hDl : t.D.length <= 1000) (hdl : due.length <= 1000)
  (hrun : ∀ (b : Addr) (ks : List Nm), ks.Perm (nds n0 al) -> ∀ (i : Nat), i < ks.length -> ∃ ti li, qRun (opD t b, []) (ks.take i) = some (ti, li) /\ Ok ti /\ ∀ n, ks[i]? = some n -> (qn ti n.1).isSome)
  (h : ∀ bb ks t' l nnl bN tb' ta, ks.Perm (nds n0 al) -> qRun (opD t bb, []) ks = some (t', l) -> QKeep (opD t bb) t' t.D bb nnl -> tabOk lamQ tb' ->
   N (stS L script fs b oa ua pa a.x g1 g2 g3 g4 g5 (some (.str (nmS n0))) (some (.raw (.ref da))) g8 g9 g10 g11 g12 g13 g14 (lwT ua pa a (stEnd t' l nnl n0 al bp bN) (due ++ [.st (nmS n0) (alE al)]) (path ++ [⟨n0, ta, told⟩]) tb' σ))) :
  Xs c (callEnv fd197 L 197) (b0.drop 7) (stS L script fs b oa ua pa a.x g1 g2 g3 g4 g5 (some (.str (nmS n0))) (some (.raw (.ref da))) g8 g9 g10 g11 g12 g13 g14 (ksT ua pa qa da ta a t due path n0 al us told (tbS tb ++ (σ ++ [(sa, .list (sc.map fun u => .str (uS u)))])))) N R := by
 have hal := hA.len
 refine Xs.cons (X.expr (E.meth (E.n F (Gm.cls B S (.tail _ (.tail _ (.tail _ (.tail _ (.tail _ (.tail _ (memR _ (memL _ Sf_inst)))))))) (by decide) (K_st1 _) (K_113 _) ?_)) rfl))
 refine Es.cons (E.n F (Es.cons (E.call (E.globB (v := .type "dict") B rfl rfl rfl rfl (by kernel_rfl) rfl ⟨_, rfl, Es.cons (E.n F ?_) rfl⟩)) rfl)) rfl
 refine Es.nil ⟨.type, Ca.dictOf2 (l := alD al) rfl (.tail _ (.tail _ (.head _))) (by unfold alD; rw [lnM]; exact le_sz (by lia)) fun ea => ?_⟩
 refine Es.nil ⟨.fn B (at113 _), ?_⟩
 refine Ca113 (pre := (L, _) :: (ea, .dict (alD al)) :: (ta, _) :: (da, _) :: (qa, _) :: (ua, _) :: (pa, _) :: path.map peC) B S hu hd ok hA (.tail _ (.head _)) htb hps hpl hol hNl hDl hrun fun bb ks t' l nnl bN tb' a1 a2 a3 a4 => ?_
 refine Xs.cons (X.expr (E.postP (E.meth (E.n F (Gm.append (l := due.map evP) (.tail _ (.tail _ (.tail _ (.tail _ (.tail _ (.head _)))))) ?_)) rfl)))
 refine Es.cons (E.tuple (Es.strC (Es.cons (E.tuple (Es.cons (E.n F ?_) rfl)) rfl))) rfl
 refine Es.cons (E.sortedItems (al := al) B (by lia) rfl rfl rfl rfl (by lia) (E.n F ⟨rfl, rfl⟩) (.tail _ (.tail _ (.tail _ (.head _)))) fun hperm => ?_) rfl
 refine Es.nil ⟨le_sz (by show 2 <= 16777216; decide), Es.nil ⟨le_sz (by show 2 <= 16777216; decide), Es.nil ⟨.builtin, Ca.append (.tail (.tail (.tail (.tail (.tail .head))))) (by rw [lnM]; exact le_sz (by lia)) ?_⟩⟩⟩
 refine ⟨_, _, perm_st (L, _) (ea, _) (ta, _) (da, _) (qa, _) (ua, _) (pa, _) (sa, _) (path.map peC) _ _ σ, .cons _ (.cons _ (.cons _ (.cons _ (.refl _)))), Xs.nil ?_⟩
 have h' := h bb ks t' l nnl bN tb' ta a1 a2 a3 a4
 have e : evP (.st (nmS n0) (alE al)) = .tup [.str "start", .tup [.str (nmS n0), .lst ((alS al).map fun x => pp (nmS x.1, x.2))]] := by
  show PV.tup [.str "start", .tup [.str (nmS n0), .lst (((alS al).map fun x => (nmS x.1, x.2)).map pp)]] = _
  rw [List.map_map]
  rfl
 unfold stS lwT at h'
 rw [app_ev, List.map_append, List.map_append, e] at h'
 exact h'
end
theorem nodup_sub {α : Type} [DecidableEq α] {l : List α} : ∀ {m : List α}, l.Nodup -> (∀ x ∈ l, x ∈ m) -> l.length <= m.length := by
 induction l with
 | nil => exact fun _ _ => Nat.zero_le _
 | cons a l ih =>
  intro m hn hs
  rw [List.nodup_cons] at hn
  have h := ih (m := m.erase a) hn.2 fun x hx => (List.mem_erase_of_ne (fun e : _ = a => hn.1 (e ▸ hx))).mpr (hs x (.tail _ hx))
  have hm : a ∈ m := hs a (.head _)
  rw [List.length_erase_of_mem hm] at h
  exact Nat.le_trans (Nat.succ_le_succ h) (Nat.le_of_eq (Nat.sub_add_cancel (List.length_pos_of_mem hm)))
noncomputable def gN (b : Bool) (p : Px) : U := match p.val with
 | 0 => if b = true then 0 else 5
 | 1 => 1 | 2 => 2 | 3 => 3 | 4 => 3 | 5 => 4 | 6 => 4 | 7 => 5 | 8 => 5 | 9 => 6 | 10 => 7 | 11 => 8 | 12 => 9 | 13 => 10
 | _ => 0
noncomputable def gq (rw b : Bool) (pm : List (U × Px)) (x : U × Px) : Prop := if rw = true then x = (1, 1) \/ x ∈ pm else gN b x.2 = x.1 /\ x.1 ≠ 0
structure PM (pm : List (U × Px)) : Prop where
 nd : (pm.map Prod.fst).Nodup
 ne : ∀ x ∈ pm, x.1 ∈ ([0, 2, 3, 4, 5] : List U)
 num : ∀ (i : Nat) x, pm[i]? = some x -> x.2 = nP i
theorem PM.len {pm : List (U × Px)} (h : PM pm) : pm.length <= 5 := by
 have := nodup_sub (m := ([0, 2, 3, 4, 5] : List U)) h.nd fun x hx => by
  obtain ⟨y, hy, rfl⟩ := List.mem_map.mp hx
  exact h.ne y hy
 simpa using this
theorem nP_inj : ∀ i j : Fin 6, nP i.val = nP j.val -> i = j := by decide +kernel
theorem nP_1 : ∀ i : Fin 6, nP i.val ≠ 1 := by decide +kernel
theorem PM.fn {pm : List (U × Px)} (h : PM pm) {x y : U × Px} (hx : x ∈ pm) (hy : y ∈ pm) (e : x.2 = y.2) : x = y := by
 have hl := h.len
 obtain ⟨i, hi, e1⟩ := List.getElem_of_mem hx
 obtain ⟨j, hj, e2⟩ := List.getElem_of_mem hy
 have h1 := h.num i x (by rw [List.getElem?_eq_getElem hi, e1])
 have h2 := h.num j y (by rw [List.getElem?_eq_getElem hj, e2])
 have := nP_inj ⟨i, by lia⟩ ⟨j, by lia⟩ (by rw [<- h1, <- h2]; exact e)
 have : i = j := by simpa using this
 subst this
 rw [<- e1, <- e2]
theorem PM.ne0 {pm : List (U × Px)} (h : PM pm) {x : U × Px} (hx : x ∈ pm) : x.2 ≠ 0 /\ x.2 ≠ 1 := by
 have hl := h.len
 obtain ⟨i, hi, e1⟩ := List.getElem_of_mem hx
 have h1 := h.num i x (by rw [List.getElem?_eq_getElem hi, e1])
 rw [h1]
 exact ⟨nP_ne ⟨i, by lia⟩, nP_1 ⟨i, by lia⟩⟩
theorem gq_fn {rw b : Bool} {pm : List (U × Px)} (h : PM pm) {x y : U × Px} (hx : gq rw b pm x) (hy : gq rw b pm y) (e : x.2 = y.2) : x.1 = y.1 := by
 unfold gq at hx hy
 cases rw with
 | false =>
  rw [if_neg (by decide)] at hx hy
  rw [<- hx.1, <- hy.1, e]
 | true =>
  rw [if_pos rfl] at hx hy
  rcases hx with rfl | hx
  ·rcases hy with rfl | hy
   ·rfl
   ·exact absurd e.symm (h.ne0 hy).2
  ·rcases hy with rfl | hy
   ·exact absurd e (h.ne0 hx).2
   ·rw [h.fn hx hy e]
theorem look_some {u : U} {p : Px} {l : List (U × Px)} : ∀ {seen : List Px}, look u l seen = some p -> (u, p) ∈ l := by
 induction l with
 | nil => exact fun h => nomatch h
 | cons x l ih =>
  intro seen h
  have h : (if x.1 = u /\ x.2 ∉ seen then some x.2 else look u l (x.2 :: seen)) = _ := h
  split at h
  ·rename_i hv
   cases h
   rw [<- hv.1]; exact .head _
  ·exact .tail _ (ih h)
theorem look_none {u : U} {l : List (U × Px)} : ∀ {seen : List Px}, (∀ x ∈ l, ∀ y ∈ l, x.2 = y.2 -> x.1 = y.1) -> (∀ x ∈ l, x.2 ∈ seen -> x.1 ≠ u) -> look u l seen = none -> u ∉ l.map Prod.fst := by
 induction l with
 | nil => exact fun _ _ _ => List.not_mem_nil
 | cons x l ih =>
  intro seen hf hs h
  have h : (if x.1 = u /\ x.2 ∉ seen then some x.2 else look u l (x.2 :: seen)) = _ := h
  split at h
  ·cases h
  ·rename_i hv
   have hvu : x.1 ≠ u := fun e => hv ⟨e, fun hq => hs x (.head _) hq e⟩
   rw [List.map_cons, List.mem_cons]
   rintro (e | e)
   ·exact hvu e.symm
   ·refine ih (fun x hx y hy => hf x (.tail _ hx) y (.tail _ hy)) (fun y hx hq => ?_) h e
    rcases List.mem_cons.mp hq with hq | hq
    ·rw [hf y (.tail _ hx) x (.head _) hq]; exact hvu
    ·exact hs y (.tail _ hx) hq
structure QI (b : Bool) (t : St) : Prop where
 D0 : t.D ≠ []
 g : ∀ x ∈ flat t.D, gq t.rw b t.pm x
 nd : ((flat t.D).map Prod.fst).Nodup
 xm : ((1 : U), (1 : Px)) ∈ flat t.D
 n : t.rw = false -> ∀ x ∈ flat t.N, gN b x.2 = x.1 /\ x.1 ≠ 0
 pm : PM t.pm
theorem QI.fn {b : Bool} {t : St} (h : QI b t) : ∀ x ∈ flat t.D, ∀ y ∈ flat t.D, x.2 = y.2 -> x.1 = y.1 := fun x hx y hy e => gq_fn h.pm (h.g x hx) (h.g y hy) e
theorem QI.len {b : Bool} {t : St} (h : QI b t) : (flat t.D).length <= 11 := by
 have := nodup_sub (m := List.finRange 11) h.nd fun x _ => List.mem_finRange x
 simpa using this
noncomputable def av (t : St) (u : U) : Prop := if t.rw = true then u.val <= 5 else u = 0 \/ u ∈ (flat t.N).map Prod.fst
noncomputable def Fnd (t : St) (u : U) (p : Px) : Prop := (u, p) ∈ flat t.D \/ (u = 0 /\ p = 0 /\ t.rw = false)
theorem flat_snoc (D : Lv) (b : Addr) (l : List (U × Px)) : flat (D ++ [(b, l)]) = l ++ flat D := by
 unfold flat
 rw [List.reverse_append]
 simp
theorem flat_tell {D : Lv} (h : D ≠ []) (x : U × Px) : (flat (tell D x)).Perm (x :: flat D) := by
 obtain ⟨D', ⟨bb, l⟩, rfl⟩ : ∃ D' z, D = D' ++ [z] := by
  rcases List.eq_nil_or_concat D with e | ⟨D', z, e⟩
  ·exact absurd e h
  ·exact ⟨D', z, by rw [e]; simp⟩
 rw [tell_snoc, flat_snoc, flat_snoc, List.append_assoc]
 exact List.perm_middle
theorem lkup_mem {α : Type} {u : U} {p : α} {l : List (U × α)} (h : l.lookup u = some p) : (u, p) ∈ l := by
 induction l with
 | nil => cases h
 | cons x l ih =>
  rw [List.lookup_cons] at h
  split at h
  ·rename_i e
   cases h
   rw [eq_of_beq e]; exact .head _
  ·exact .tail _ (ih h)
theorem lookup_isSome {α : Type} {u : U} {l : List (U × α)} (h : u ∈ l.map Prod.fst) : ∃ p, l.lookup u = some p := by
 induction l with
 | nil => cases h
 | cons x l ih =>
  rw [List.lookup_cons]
  split
  ·exact ⟨_, rfl⟩
  ·rename_i e
   rcases List.mem_cons.mp h with h | h
   ·subst h; simp at e
   ·exact ih h
theorem tell_ne0 {D : Lv} (h : D ≠ []) (x : U × Px) : tell D x ≠ [] := by
 obtain ⟨D', ⟨bb, l⟩, rfl⟩ : ∃ D' z, D = D' ++ [z] := by
  rcases List.eq_nil_or_concat D with e | ⟨D', z, e⟩
  ·exact absurd e h
  ·exact ⟨D', z, by rw [e]; simp⟩
 rw [tell_snoc]; simp
theorem gq_mono {rw b : Bool} {pm pm' : List (U × Px)} (hs : ∀ x ∈ pm, x ∈ pm') {x : U × Px} (h : gq rw b pm x) : gq rw b pm' x := by
 unfold gq at h ⊢
 split
 ·rename_i e
  rw [if_pos e] at h
  exact h.imp id (hs x)
 ·rename_i e
  rw [if_neg e] at h
  exact h
theorem QI.tell {b : Bool} {t : St} (h : QI b t) {u : U} {p : Px} {pm : List (U × Px)} (hs : ∀ x ∈ t.pm, x ∈ pm) (hp : PM pm) (hu : u ∉ (flat t.D).map Prod.fst) (hg : gq t.rw b pm (u, p)) : QI b { t with D := tell t.D (u, p), pm := pm } where
 D0 := tell_ne0 h.D0 _
 g := fun x hx => by
  rcases List.mem_cons.mp ((flat_tell h.D0 _).mem_iff.mp hx) with rfl | hx
  ·exact hg
  ·exact gq_mono hs (h.g x hx)
 nd := by
  have hp := ((flat_tell h.D0 (u, p)).map Prod.fst).nodup_iff.mpr (List.nodup_cons.mpr ⟨hu, h.nd⟩)
  exact hp
 xm := (flat_tell h.D0 _).mem_iff.mpr (.tail _ h.xm)
 n := h.n
 pm := hp
theorem PM.snoc {pm : List (U × Px)} (h : PM pm) {u : U} (hu : u ∉ pm.map Prod.fst) (hv : u ∈ ([0, 2, 3, 4, 5] : List U)) : PM (pm ++ [(u, nP pm.length)]) where
 nd := by
  rw [List.map_append, List.nodup_append]
  refine ⟨h.nd, by simp, fun a ha c hc => ?_⟩
  rw [List.mem_singleton.mp hc]
  exact fun e => hu (by rw [<- show a = u from e]; exact ha)
 ne := fun x hx => by
  rcases List.mem_append.mp hx with hx | hx
  ·exact h.ne x hx
  ·rw [List.mem_singleton.mp hx]; exact hv
 num := fun i x hx => by
  by_cases hi : i < pm.length
  ·rw [List.getElem?_append_left hi] at hx
   exact h.num i x hx
  ·rw [List.getElem?_append_right (by omega)] at hx
   have : i - pm.length = 0 := by
    have := (List.getElem?_eq_some_iff.mp hx).1
    simp at this
    omega
   rw [this] at hx
   simp at hx
   rw [<- hx]
   show nP pm.length = nP i
   rw [show i = pm.length by omega]
structure Nxt (t t' : St) : Prop where
 D : ∀ x ∈ flat t.D, x ∈ flat t'.D
 N : t'.N = t.N
 rw : t'.rw = t.rw
 pm : ∀ x ∈ t.pm, x ∈ t'.pm
 dl : t'.D.length = t.D.length
theorem Nxt.refl (t : St) : Nxt t t := ⟨fun _ h => h, rfl, rfl, fun _ h => h, rfl⟩
theorem Nxt.trans {t t' t'' : St} (a : Nxt t t') (b : Nxt t' t'') : Nxt t t'' := ⟨fun x h => b.D x (a.D x h), b.N.trans a.N, b.rw.trans a.rw, fun x h => b.pm x (a.pm x h), b.dl.trans a.dl⟩
theorem Fnd.mono {t t' : St} (k : Nxt t t') {u : U} {p : Px} (h : Fnd t u p) : Fnd t' u p := h.imp (k.D _) fun ⟨a, b, c⟩ => ⟨a, b, k.rw.trans c⟩
theorem tell_len {D : Lv} (x : U × Px) : (tell D x).length = D.length := by
 rcases List.eq_nil_or_concat D with e | ⟨D', ⟨bb, l⟩, e⟩
 ·subst e; rfl
 ·subst e
  rw [List.concat_eq_append, tell_snoc]; simp
theorem Nxt.tell {t : St} (h : t.D ≠ []) {x : U × Px} {pm : List (U × Px)} (hs : ∀ x ∈ t.pm, x ∈ pm) : Nxt t { t with D := Mine.tell t.D x, pm := pm } := ⟨fun y hy => (flat_tell h x).mem_iff.mpr (.tail _ hy), rfl, rfl, hs, tell_len x⟩
theorem u_small : ∀ u : U, u.val <= 5 -> u ≠ 1 -> u ∈ ([0, 2, 3, 4, 5] : List U) := by decide +kernel
theorem qn_step {b : Bool} {t : St} {u : U} (h : QI b t) (ha : av t u) : ∃ r, qn t u = some r /\ QI b (qst t u r) /\ Fnd (qst t u r) u r.1 /\ Nxt t (qst t u r) := by
 unfold qn
 cases hl : look u (flat t.D) [] with
 | some p => exact ⟨(p, false, false), rfl, h, .inl (look_some hl), .refl t⟩
 | none =>
  have hu := look_none h.fn (fun x _ hx => by cases hx) hl
  dsimp only
  unfold av at ha
  by_cases hr : t.rw = true
  ·rw [if_pos hr] at ha ⊢
   have hu1 : u ≠ 1 := fun e => hu (List.mem_map.mpr ⟨(1, 1), h.xm, e.symm⟩)
   cases hp : t.pm.lookup u with
   | some p =>
    have hm := lkup_mem hp
    refine ⟨(p, true, false), rfl, h.tell (fun _ hx => hx) h.pm hu (by unfold gq; rw [if_pos hr]; exact .inr hm), .inl ((flat_tell h.D0 _).mem_iff.mpr (.head _)), .tell h.D0 fun _ hx => hx⟩
   | none =>
    have hn : u ∉ t.pm.map Prod.fst := fun e => by
     obtain ⟨p, hp2⟩ := lookup_isSome e
     rw [hp] at hp2; cases hp2
    refine ⟨(nP t.pm.length, true, true), rfl, h.tell (fun _ hx => memL _ hx) (h.pm.snoc hn (u_small u ha hu1)) hu (by unfold gq; rw [if_pos hr]; exact .inr (memR _ (.head _))), .inl ((flat_tell h.D0 _).mem_iff.mpr (.head _)), .tell h.D0 fun _ hx => memL _ hx⟩
  ·rw [if_neg hr] at ha ⊢
   have hr' : t.rw = false := by simpa using hr
   by_cases h0 : u = 0 /\ (0 : Px) ∉ (flat t.D).map Prod.snd
   ·rw [if_pos h0]
    exact ⟨(0, false, false), rfl, h, .inr ⟨h0.1, rfl, hr'⟩, .refl t⟩
   ·rw [if_neg h0]
    cases hp : (flat t.N).lookup u with
    | some p =>
     have hm := lkup_mem hp
     have hg := h.n hr' _ hm
     refine ⟨(p, true, false), rfl, h.tell (fun _ hx => hx) h.pm hu (by unfold gq; rw [if_neg hr]; exact hg), .inl ((flat_tell h.D0 _).mem_iff.mpr (.head _)), .tell h.D0 fun _ hx => hx⟩
    | none =>
     dsimp only
     by_cases hu0 : u = 0
     ·rw [if_pos hu0]
      exact ⟨(0, false, false), rfl, h, .inr ⟨hu0, rfl, hr'⟩, .refl t⟩
     ·obtain ⟨p, hp2⟩ := lookup_isSome (ha.resolve_left hu0)
      rw [hp] at hp2; cases hp2
theorem av_nxt {t t' : St} (k : Nxt t t') {u : U} (h : av t u) : av t' u := by
 unfold av at h ⊢
 rw [k.rw, k.N]
 exact h
theorem qRun_all {b : Bool} {ks : List Nm} : ∀ {t : St} {l : List (Nm × Px)}, QI b t -> (∀ n ∈ ks, av t n.1) -> (∀ x ∈ l, Fnd t x.1.1 x.2) ->
  ∃ t' l', qRun (t, l) ks = some (t', l') /\ QI b t' /\ Nxt t t' /\ ∀ x ∈ l', Fnd t' x.1.1 x.2 := by
 induction ks with
 | nil => exact fun {t l} h _ hl => ⟨t, l, rfl, h, .refl t, hl⟩
 | cons n ks ih =>
  intro t l h ha hl
  obtain ⟨r, hr, hq, hf, hn⟩ := qn_step h (ha n (.head _))
  obtain ⟨t', l', e, h1, h2, h3⟩ := ih (t := qst t n.1 r) (l := l ++ [(n, r.1)]) hq (fun m hm => av_nxt hn (ha m (.tail _ hm))) (fun x hx => by
   rcases List.mem_append.mp hx with hx | hx
   ·exact (hl x hx).mono hn
   ·rw [List.mem_singleton.mp hx]; exact hf)
  refine ⟨t', l', ?_, h1, hn.trans h2, h3⟩
  show (qStep (t, l) n).bind _ = _
  unfold qStep
  dsimp only
  rw [hr]
  exact e
theorem kev_congr {α : Type} {n : Nat} {P : α -> Bool} {f g : Nat -> Nat -> Bool} (hfg : ∀ i j, i < n -> j < n -> i ≠ j -> f i j = g i j) (t : KasT α) (h : kidx n P t = true) : kev f t = kev g t := by
 induction t with
 | ret a => rfl
 | ask i j k ih =>
  show kev f (k (f i j)) = kev g (k (g i j))
  rw [hfg i j (kidx_ask h).1.1 (kidx_ask h).1.2.1 (kidx_ask h).1.2.2]
  exact ih _ ((kidx_ask h).2 _)
theorem srtP_congr {n : Nat} (h4 : n <= 4) {f g : Nat -> Nat -> Bool} (hfg : ∀ i j, i < n -> j < n -> i ≠ j -> f i j = g i j) : srtP n f = srtP n g := by
 unfold srtP
 split
 ·rfl
 ·rw [kev_congr hfg _ (ki (by lia) h4)]
noncomputable def T3 (a b c : Bool) (i j : Nat) : Bool := match i, j with
 | 0, 1 => a | 1, 0 => !a | 0, 2 => b | 2, 0 => !b | 1, 2 => c | 2, 1 => !c | _, _ => false
theorem sort3 : ∀ a b c : Bool, (a = true -> c = true -> b = true) -> (a = false -> c = false -> b = false) ->
  ∀ i j : Fin 3, i < j -> T3 a b c ((srtP 3 (T3 a b c)).getD i.val 0) ((srtP 3 (T3 a b c)).getD j.val 0) = true := by decide +kernel
theorem sort2 : ∀ a : Bool, ∀ i j : Fin 2, i < j -> T3 a true true ((srtP 2 (T3 a true true)).getD i.val 0) ((srtP 2 (T3 a true true)).getD j.val 0) = true := by decide +kernel
theorem srtP_id : ∀ n : Fin 4, srtP n.val (fun i j => decide (i < j)) = List.range n.val := by decide +kernel
theorem T3_of {r : Nat -> Nat} {n : Nat} (hn : n <= 3) (hr : ∀ i j, i < n -> j < n -> r i = r j -> i = j) (i j : Nat) (hi : i < n) (hj : j < n) (hij : i ≠ j) (a b c : Bool) (ha : 1 < n -> a = decide (r 0 < r 1)) (hb : 2 < n -> b = decide (r 0 < r 2)) (hc : 2 < n -> c = decide (r 1 < r 2)) :
  decide (r i < r j) = T3 a b c i j := by
 have h3 : i = 0 \/ i = 1 \/ i = 2 := by lia
 have h4 : j = 0 \/ j = 1 \/ j = 2 := by lia
 have hne : r i ≠ r j := fun e => hij (hr i j hi hj e)
 rcases h3 with rfl | rfl | rfl <;> rcases h4 with rfl | rfl | rfl
 ·lia
 ·exact (ha (by lia)).symm
 ·exact (hb (by lia)).symm
 ·show _ = !a
  rw [ha (by lia)]
  by_cases h : r 0 < r 1
  ·rw [decide_eq_true h, decide_eq_false (by lia)]; rfl
  ·rw [decide_eq_false h, decide_eq_true (by lia)]; rfl
 ·lia
 ·exact (hc (by lia)).symm
 ·show _ = !b
  rw [hb (by lia)]
  by_cases h : r 0 < r 2
  ·rw [decide_eq_true h, decide_eq_false (by lia)]; rfl
  ·rw [decide_eq_false h, decide_eq_true (by lia)]; rfl
 ·show _ = !c
  rw [hc (by lia)]
  by_cases h : r 1 < r 2
  ·rw [decide_eq_true h, decide_eq_false (by lia)]; rfl
  ·rw [decide_eq_false h, decide_eq_true (by lia)]; rfl
 ·lia
theorem getD_range {p : List Nat} {n i : Nat} (h : p.Perm (List.range n)) (hi : i < n) : p.getD i 0 < n := by
 have hl : p.length = n := by rw [h.length_eq, List.length_range]
 rw [List.getD_eq_getElem?_getD, List.getElem?_eq_getElem (by lia), Option.getD_some]
 exact List.mem_range.mp (h.mem_iff.mp (List.getElem_mem _))
theorem getD_ne {p : List Nat} {n i j : Nat} (h : p.Perm (List.range n)) (hi : i < n) (hj : j < n) (hij : i ≠ j) : p.getD i 0 ≠ p.getD j 0 := by
 have hl : p.length = n := by rw [h.length_eq, List.length_range]
 have hn : p.Nodup := h.nodup_iff.mpr List.nodup_range
 rw [List.getD_eq_getElem?_getD, List.getD_eq_getElem?_getD, List.getElem?_eq_getElem (by lia), List.getElem?_eq_getElem (by lia), Option.getD_some, Option.getD_some]
 have hpw := List.pairwise_iff_getElem.mp hn
 rcases Nat.lt_or_gt_of_ne hij with h1 | h1
 ·exact hpw i j (by lia) (by lia) h1
 ·exact (hpw j i (by lia) (by lia) h1).symm
theorem srtP_sorted {r : Nat -> Nat} {n : Nat} (hn : n <= 3) (hr : ∀ i j, i < n -> j < n -> r i = r j -> i = j) {f : Nat -> Nat -> Bool} (hf : ∀ i j, i < n -> j < n -> i ≠ j -> f i j = decide (r i < r j)) {i j : Nat} (hi : i < n) (hj : j < n) (hij : i < j) :
  r ((srtP n f).getD i 0) < r ((srtP n f).getD j 0) := by
 have hp := srtP_perm (by lia : n <= 4) f
 have h1 := getD_range hp hi
 have h2 := getD_range hp hj
 have h3 := getD_ne hp hi hj (by lia)
 have key : decide (r ((srtP n f).getD i 0) < r ((srtP n f).getD j 0)) = true := by
  have hc : n = 2 \/ n = 3 := by lia
  rcases hc with rfl | rfl
  ·have hT : ∀ i j, i < 2 -> j < 2 -> i ≠ j -> f i j = T3 (decide (r 0 < r 1)) true true i j := fun i j hi hj hij => by
    rw [hf i j hi hj hij]
    exact T3_of (n := 2) (by lia) hr i j hi hj hij _ _ _ (fun _ => rfl) (fun h => by lia) (fun h => by lia)
   rw [<- hf _ _ h1 h2 h3, hT _ _ h1 h2 h3, srtP_congr (by lia) hT]
   exact sort2 _ ⟨i, hi⟩ ⟨j, hj⟩ hij
  ·have hT : ∀ i j, i < 3 -> j < 3 -> i ≠ j -> f i j = T3 (decide (r 0 < r 1)) (decide (r 0 < r 2)) (decide (r 1 < r 2)) i j := fun i j hi hj hij => by
    rw [hf i j hi hj hij]
    exact T3_of (n := 3) (by lia) hr i j hi hj hij _ _ _ (fun _ => rfl) (fun _ => rfl) (fun _ => rfl)
   rw [<- hf _ _ h1 h2 h3, hT _ _ h1 h2 h3, srtP_congr (by lia) hT]
   have n01 : r 0 ≠ r 1 := fun e => by have := hr 0 1 (by lia) (by lia) e; lia
   have n02 : r 0 ≠ r 2 := fun e => by have := hr 0 2 (by lia) (by lia) e; lia
   have n12 : r 1 ≠ r 2 := fun e => by have := hr 1 2 (by lia) (by lia) e; lia
   refine sort3 _ _ _ (fun a b => ?_) (fun a b => ?_) ⟨i, hi⟩ ⟨j, hj⟩ hij
   ·simp only [decide_eq_true_eq] at a b ⊢; lia
   ·simp only [decide_eq_false_iff_not] at a b ⊢; lia
 exact of_decide_eq_true key
noncomputable def rkU : List Nat := [0, 7, 6, 8, 9, 10, 4, 3, 2, 5, 1]
noncomputable def rk (n : Nm) : Nat := 2 * rkU.getD n.1.val 0 + if n.2 = true then 1 else 0
theorem rk_lt : ∀ (u v : U) (l k : Bool), decide ((nmS (u, l)).cps.toList < (nmS (v, k)).cps.toList) = decide (rk (u, l) < rk (v, k)) := by decide +kernel
theorem rk_inj : ∀ (u v : U) (l k : Bool), rk (u, l) = rk (v, k) -> (u, l) = (v, k) := by decide +kernel
noncomputable def nmE (x : Nm × Str) : Str × Str := (nmS x.1, x.2)
theorem pLt_nm {x y : Nm × Str} (h : x.1 ≠ y.1) : pLt (nmE x) (nmE y) = decide (rk x.1 < rk y.1) := by
 unfold pLt nmE
 rw [if_neg (fun e => h (nm_inj e))]
 obtain ⟨⟨u, l⟩, a⟩ := x
 obtain ⟨⟨v, k⟩, b⟩ := y
 exact rk_lt u v l k
theorem alE_eq (al : List (Nm × Str)) : alE al = (alS al).map nmE := rfl
theorem getD_mapE (al : List (Nm × Str)) {i : Nat} (h : i < al.length) : (al.map nmE).getD i ("", "") = nmE (al[i]'h) := by
 rw [List.getD_eq_getElem?_getD, List.getElem?_map, List.getElem?_eq_getElem h]
 rfl
theorem nd_ne {al : List (Nm × Str)} (hn : (al.map Prod.fst).Nodup) {i j : Nat} (hi : i < al.length) (hj : j < al.length) (hij : i ≠ j) : (al[i]'hi).1 ≠ (al[j]'hj).1 := by
 have hpw := List.pairwise_iff_getElem.mp hn
 have e : ∀ {i : Nat} (h : i < al.length), (al[i]'h).1 = (al.map Prod.fst)[i]'(by rw [lnM]; exact h) := fun h => by rw [List.getElem_map]
 rw [e hi, e hj]
 rcases Nat.lt_or_gt_of_ne hij with h1 | h1
 ·exact hpw i j _ _ h1
 ·exact (hpw j i _ _ h1).symm
theorem alS_sorted {al : List (Nm × Str)} (hA : Al al) {i j : Nat} (hi : i < (alS al).length) (hj : j < (alS al).length) (hij : i < j) : rk ((alS al)[i]'hi).1 < rk ((alS al)[j]'hj).1 := by
 have hl := hA.len
 have hp : (alP al).Perm (List.range al.length) := srtP_perm (by lia) _
 have hlen : (alP al).length = al.length := by rw [hp.length_eq, List.length_range]
 have e : alS al = (alP al).map fun k => al.getD k (((0 : U), false), "") := by
  unfold alS pick
  have : ∀ l : List Nat, (∀ k ∈ l, k < al.length) -> l.filterMap (al[·]?) = l.map fun k => al.getD k (((0 : U), false), "") := by
   intro l
   induction l with
   | nil => intro _; rfl
   | cons k l ih =>
    intro h
    have hk := h k (.head _)
    rw [List.filterMap_cons, List.getElem?_eq_getElem hk, List.map_cons, ih fun k' hk' => h k' (.tail _ hk'), List.getD_eq_getElem?_getD, List.getElem?_eq_getElem hk]
    rfl
  exact this _ fun k hk => List.mem_range.mp (hp.mem_iff.mp hk)
 have hln : (alS al).length = al.length := by rw [e, lnM, hlen]
 have hget : ∀ {i : Nat} (h : i < (alS al).length), (alS al)[i]'h = al.getD ((alP al).getD i 0) (((0 : U), false), "") := fun {i} h => by
  have h' : i < (alP al).length := by lia
  have : (alS al)[i]? = some (al.getD ((alP al).getD i 0) (((0 : U), false), "")) := by
   rw [e, List.getElem?_map, List.getElem?_eq_getElem h', Option.map_some, List.getD_eq_getElem?_getD (l := alP al), List.getElem?_eq_getElem h', Option.getD_some]
  rw [List.getElem?_eq_getElem h] at this
  exact Option.some.inj this
 rw [hget hi, hget hj]
 refine srtP_sorted (r := fun k => rk (al.getD k (((0 : U), false), "")).1) (n := al.length) hl (fun i j hi hj he => ?_) (fun i j hi hj hne => ?_) (by lia) (by lia) hij
 ·by_cases hij : i = j
  ·exact hij
  ·have h1 := nd_ne hA.nodup hi hj hij
   simp only [List.getD_eq_getElem?_getD, List.getElem?_eq_getElem hi, List.getElem?_eq_getElem hj, Option.getD_some] at he
   exact absurd (rk_inj _ _ _ _ he) h1
 ·show pLt ((al.map nmE).getD i ("", "")) ((al.map nmE).getD j ("", "")) = _
  rw [getD_mapE al hi, getD_mapE al hj, pLt_nm (nd_ne hA.nodup hi hj hne)]
  simp only [List.getD_eq_getElem?_getD, List.getElem?_eq_getElem hi, List.getElem?_eq_getElem hj, Option.getD_some]
theorem alS_len {al : List (Nm × Str)} (hA : Al al) : (alS al).Perm al := alS_perm (srtP_perm (by have := hA.len; lia) _)
theorem alE_srt {al : List (Nm × Str)} (hA : Al al) : srtL (alE al) = alE al := by
 have hp := alS_len hA
 have hl := hA.len
 have hln : (alS al).length = al.length := hp.length_eq
 rw [alE_eq]
 unfold srtL
 rw [lnM, srtP_congr (g := fun i j => decide (i < j)) (by lia) (fun i j hi hj hij => ?_)]
 ·have := srtP_id ⟨(alS al).length, by lia⟩
  rw [this]
  have h2 := pick_range ((alS al).map nmE)
  rw [lnM] at h2
  exact h2
 ·rw [getD_mapE _ hi, getD_mapE _ hj]
  have hnd : ((alS al).map Prod.fst).Nodup := (hp.map Prod.fst).nodup_iff.mpr hA.nodup
  rw [pLt_nm (nd_ne hnd hi hj hij)]
  rcases Nat.lt_or_gt_of_ne hij with h1 | h1
  ·rw [decide_eq_true h1, decide_eq_true (alS_sorted hA hi hj h1)]
  ·have := alS_sorted hA hj hi h1
   rw [decide_eq_false (by lia), decide_eq_false (by lia)]
theorem put_lookup (l : RL) (x : Px × U) (p : Px) : (rlPut l x).lookup p = if p = x.1 then some x.2 else l.lookup p := by
 unfold rlPut
 split
 ·rename_i h
  induction l with
  | nil => cases h
  | cons y t ih =>
   rw [List.map_cons, List.lookup_cons, List.lookup_cons]
   by_cases hy : y.1 = x.1
   ·rw [if_pos hy]
    by_cases hp : p = x.1
    ·rw [if_pos hp, show (p == y.1) = true by rw [hp, hy]; simp]
    ·rw [if_neg hp, show (p == y.1) = false by rw [hy]; simpa using hp]
     by_cases ht : t.any (fun y => decide (y.1 = x.1)) = true
     ·have := ih ht
      rw [if_neg hp] at this
      exact this
     ·have e : t.map (fun y => if y.1 = x.1 then (y.1, x.2) else y) = t := by
       have : ∀ y ∈ t, y.1 ≠ x.1 := fun y hy e => ht (List.any_eq_true.mpr ⟨y, hy, decide_eq_true e⟩)
       rw [List.map_congr_left (g := id) fun y hy => by rw [if_neg (this y hy)]; rfl, List.map_id]
      rw [e]
   ·rw [if_neg hy]
    by_cases hp : p = y.1
    ·rw [show (p == y.1) = true by rw [hp]; simp, if_neg (by rw [hp]; exact hy)]
    ·rw [show (p == y.1) = false by simpa using hp]
     have ht : t.any (fun y => decide (y.1 = x.1)) = true := by
      rw [List.any_cons, Bool.or_eq_true] at h
      rcases h with h | h
      ·exact absurd (of_decide_eq_true h) hy
      ·exact h
     exact ih ht
 ·rename_i h
  induction l with
  | nil =>
   show (List.lookup p [x]) = _
   rw [List.lookup_cons]
   by_cases hp : p = x.1
   ·rw [if_pos hp, show (p == x.1) = true by rw [hp]; simp]
   ·rw [if_neg hp, show (p == x.1) = false by simpa using hp]
  | cons y t ih =>
   rw [List.any_cons, Bool.or_eq_true, not_or] at h
   have hy : y.1 ≠ x.1 := fun e => h.1 (decide_eq_true e)
   rw [List.cons_append, List.lookup_cons, List.lookup_cons]
   by_cases hp : p = y.1
   ·rw [show (p == y.1) = true by rw [hp]; simp, if_neg (by rw [hp]; exact hy)]
   ·rw [show (p == y.1) = false by simpa using hp]
    exact ih h.2
theorem all_lookup {p : Px} {v : U} {rs : List Pr} : ∀ {l : RL}, (∀ u, Pr.ns p u ∈ rs -> u = v) -> (Pr.ns p v ∈ rs \/ l.lookup p = some v) -> (nsAll l rs).lookup p = some v := by
 induction rs with
 | nil => exact fun _ h => h.resolve_left List.not_mem_nil
 | cons r rs ih =>
  intro l hu h
  refine ih (l := nsPut l r) (fun u hm => hu u (.tail _ hm)) ?_
  cases r with
  | «at» q b s =>
   rcases h with h | h
   ·rcases List.mem_cons.mp h with h | h
    ·cases h
    ·exact .inl h
   ·exact .inr h
  | ns q u =>
   by_cases hq : p = q
   ·subst hq
    have := hu u (.head _)
    subst this
    right
    show (rlPut l (p, u)).lookup p = some u
    rw [put_lookup, if_pos rfl]
   ·rcases h with h | h
    ·rcases List.mem_cons.mp h with h | h
     ·cases h; exact absurd rfl hq
     ·exact .inl h
    ·right
     show (rlPut l (q, u)).lookup p = some v
     rw [put_lookup, if_neg hq]; exact h
theorem all_lookup0 {p : Px} : ∀ {rs : List Pr} {l : RL}, (∀ u, Pr.ns p u ∉ rs) -> (nsAll l rs).lookup p = l.lookup p
 | [], l, _ => rfl
 | r :: rs, l, hu => by
  show (nsAll (nsPut l r) rs).lookup p = _
  rw [all_lookup0 fun u hm => hu u (.tail _ hm)]
  cases r with
  | «at» q b s => rfl
  | ns q u =>
   show (rlPut l (q, u)).lookup p = _
   rw [put_lookup, if_neg]
   intro e
   subst e
   exact hu u (.head _)
structure LvOk (l : RL) (F : List (U × Px)) : Prop where
 at_ : ∀ x ∈ F, l.lookup x.2 = some x.1
 none : (0 : Px) ∉ F.map Prod.snd -> l.lookup 0 = some 0
theorem LvOk.zero {l : RL} {F : List (U × Px)} (h : LvOk l F) : ∃ u, l.lookup 0 = some u := by
 by_cases h0 : (0 : Px) ∈ F.map Prod.snd
 ·obtain ⟨x, hx, e⟩ := List.mem_map.mp h0
  have := h.at_ x hx
  rw [e] at this
  exact ⟨_, this⟩
 ·exact ⟨_, h.none h0⟩
theorem put_keys (l : RL) (x : Px × U) (h : (l.map Prod.fst).Nodup) : ((rlPut l x).map Prod.fst).Nodup := by
 unfold rlPut
 split
 ·rw [List.map_map]
  have : (Prod.fst ∘ fun y : Px × U => if y.1 = x.1 then (y.1, x.2) else y) = Prod.fst := by
   funext y
   simp only [Function.comp]
   split <;> rfl
  rw [this]; exact h
 ·rename_i hn
  rw [List.map_append, List.nodup_append]
  refine ⟨h, by simp, fun a ha c hc => ?_⟩
  rw [List.mem_singleton.mp hc]
  intro e
  obtain ⟨y, hy, e2⟩ := List.mem_map.mp ha
  exact hn (List.any_eq_true.mpr ⟨y, hy, decide_eq_true (e2.trans e)⟩)
theorem all_keys : ∀ (rs : List Pr) (l : RL), (l.map Prod.fst).Nodup -> ((nsAll l rs).map Prod.fst).Nodup
 | [], l, h => h
 | r :: rs, l, h => by
  show ((nsAll (nsPut l r) rs).map Prod.fst).Nodup
  refine all_keys rs _ ?_
  cases r with
  | ns p u => exact put_keys _ _ h
  | «at» p b v => exact h
theorem keys_len {l : RL} (h : (l.map Prod.fst).Nodup) : l.length <= 20 := by
 have := nodup_sub (m := List.finRange 20) h fun x _ => List.mem_finRange x
 simpa using this
noncomputable def atPr (l : List (Nm × Px)) (x : Nm × Str) : Pr := .at (if x.1.1 = 0 then 0 else (l.lookup x.1).getD 0) x.1.2 x.2
noncomputable def nsPr (l : List (U × Px)) : List Pr := l.map fun x => .ns x.2 x.1
theorem atPr_key (l : List (Nm × Px)) (x : Nm × Str) : (atPr l x).pv = (anS l x.1, x.2) := by
 unfold atPr anS
 by_cases h : x.1.1 = 0
 ·rw [if_pos h, if_pos h]; rfl
 ·rw [if_neg h, if_neg h]; rfl
theorem nsPr_mem {l : List (U × Px)} {p : Px} {u : U} : Pr.ns p u ∈ nsPr l ↔ (u, p) ∈ l := by
 unfold nsPr
 constructor
 ·intro h
  obtain ⟨x, hx, e⟩ := List.mem_map.mp h
  cases e
  exact hx
 ·intro h
  exact List.mem_map.mpr ⟨(u, p), h, rfl⟩
theorem start_lv {l : RL} {F nn : List (U × Px)} {at_ : List (Nm × Str)} {lq : List (Nm × Px)} (h : LvOk l F) (hf : ∀ x ∈ nn ++ F, ∀ y ∈ nn ++ F, x.2 = y.2 -> x.1 = y.1) {nn' : List (U × Px)} (hp : nn'.Perm nn) :
  LvOk (nsAll l (nsPr nn' ++ at_.map (atPr lq))) (nn ++ F) := by
 have hm : ∀ {p u}, Pr.ns p u ∈ nsPr nn' ++ at_.map (atPr lq) ↔ (u, p) ∈ nn := by
  intro p u
  rw [List.mem_append, nsPr_mem, hp.mem_iff]
  constructor
  ·rintro (h | h)
   ·exact h
   ·obtain ⟨x, _, e⟩ := List.mem_map.mp h
    cases e
  ·exact .inl
 constructor
 ·intro x hx
  refine all_lookup (fun u hu => ?_) ?_
  ·exact hf (u, x.2) (memL _ (hm.mp hu)) x hx rfl
  ·rcases List.mem_append.mp hx with h1 | h1
   ·exact .inl (hm.mpr h1)
   ·exact .inr (h.at_ x h1)
 ·intro h0
  rw [List.map_append, List.mem_append, not_or] at h0
  rw [all_lookup0 fun u hu => h0.1 (List.mem_map.mpr ⟨(u, 0), hm.mp hu, rfl⟩)]
  exact h.none h0.2
noncomputable def outL (out : List Str) : List Nat := out.flatMap fun s => s.cps.toList
theorem app_cps (a b : Str) : (a ++ b).cps.toList = a.cps.toList ++ b.cps.toList := by
 show (a.cps ++ b.cps).toList = _
 simp
theorem cat_cons (x : Str) (xs : List Str) : catS (x :: xs) = x ++ catS xs := by
 unfold catS
 cases xs with
 | nil => show x = x ++ Str.empty; rw [Str.append_empty]
 | cons y ys => show x ++ Str.empty ++ Str.join Str.empty (y :: ys) = _; rw [Str.append_empty]
theorem cat_out (xs : List Str) : (catS xs).cps.toList = outL xs := by
 induction xs with
 | nil => rfl
 | cons x xs ih => rw [cat_cons, app_cps, ih]; rfl
theorem outL_app (a b : List Str) : outL (a ++ b) = outL a ++ outL b := by unfold outL; rw [List.flatMap_append]
theorem cat_app (a b : List Str) : catS (a ++ b) = catS a ++ catS b := by
 rw [Str_eta (catS (a ++ b)), cat_out, outL_app, <- cat_out, <- cat_out, <- app_cps, <- Str_eta]
theorem cat_one (x : Str) : catS [x] = x := rfl
noncomputable def Ev.isText : Ev -> Bool
 | .tx k _ => k == "text"
 | _ => false
noncomputable def jstep (acc : List Ev) (e : Ev) : List Ev :=
 if e.isText = true then
  match acc.getLast?, e with
  | some (.tx k0 s0), .tx k s => if (k0 == ("text" : Str)) = true then acc.dropLast ++ [.tx "text" (s0 ++ s)] else if s.length = 0 then acc else acc ++ [.tx k s]
  | _, .tx k s => if s.length = 0 then acc else acc ++ [.tx k s]
  | _, _ => acc
 else acc ++ [e]
noncomputable def jn : List Ev -> List Ev
 | [] => []
 | e :: es => es.foldl jstep [e]
theorem jn_snoc {due : List Ev} (h : due ≠ []) (e : Ev) : jn (due ++ [e]) = jstep (jn due) e := by
 cases due with
 | nil => exact absurd rfl h
 | cons d ds =>
  show (ds ++ [e]).foldl jstep [d] = _
  rw [List.foldl_append]
  rfl
noncomputable def pend (x : Str) : List Ev := if x.length = 0 then [] else [.tx "text" x]
noncomputable def lastNT (ev : List Ev) : Prop := ∃ ev' e, ev = ev' ++ [e] /\ e.isText = false
theorem str_nil {x : Str} (h : x.length = 0) : x = Str.empty := by
 have : x.cps.toList = [] := List.length_eq_zero_iff.mp (by simpa [Str.length] using h)
 rw [Str_eta x, this]; rfl
theorem jn_text {due ev : List Ev} {x : Str} (hd : due ≠ []) (h : jn due = ev ++ pend x) (hl : lastNT ev) (s : Str) : jn (due ++ [.tx "text" s]) = ev ++ pend (x ++ s) := by
 rw [jn_snoc hd, h]
 unfold jstep
 rw [if_pos (show (Ev.tx "text" s).isText = true by rfl)]
 have hlen : (x ++ s).length = x.length + s.length := str_len_append _ _
 by_cases hx : x.length = 0
 ·have hp : pend x = [] := if_pos hx
  obtain ⟨ev', e, rfl, he⟩ := hl
  rw [hp, List.append_nil, List.getLast?_append, List.getLast?_singleton, Option.some_or, str_nil hx, Str.empty_append]
  unfold pend
  cases e with
  | tx k0 s0 =>
   have hk : (k0 == ("text" : Str)) = false := he
   dsimp only
   rw [hk, if_neg (by decide)]
   split <;> simp
  | st t as =>
   dsimp only
   split <;> simp
 ·have hp : pend x = [.tx "text" x] := if_neg hx
  rw [hp, List.getLast?_append, List.getLast?_singleton, Option.some_or]
  dsimp only
  rw [if_pos (by rfl), List.dropLast_concat]
  unfold pend
  rw [if_neg (by lia)]
theorem jn_other {due : List Ev} {e : Ev} (hd : due ≠ []) (he : e.isText = false) : jn (due ++ [e]) = jn due ++ [e] := by
 rw [jn_snoc hd]
 unfold jstep
 rw [if_neg (by simp [he])]
noncomputable def evOk : Ev -> Prop
 | .tx k s => PyData.strOk k = true /\ PyData.strOk s = true
 | .st t as => PyData.strOk t = true /\ ∀ x ∈ as, PyData.strOk x.1 = true /\ PyData.strOk x.2 = true
theorem strOk_app (x y : Str) : PyData.strOk (x ++ y) = (PyData.strOk x && PyData.strOk y) := by
 unfold PyData.strOk
 rw [show (x ++ y).cps = x.cps ++ y.cps from rfl, Array.all_append]
theorem jstep_cases (acc : List Ev) (e : Ev) : jstep acc e = acc \/ jstep acc e = acc ++ [e] \/ ∃ k0 s0 k s, acc.getLast? = some (.tx k0 s0) /\ e = .tx k s /\ jstep acc e = acc.dropLast ++ [.tx "text" (s0 ++ s)] := by
 cases e with
 | st t as => exact .inr (.inl rfl)
 | tx k s =>
  by_cases ht : (Ev.tx k s).isText = true
  ·have two : ∀ l, l = (if s.length = 0 then acc else acc ++ [.tx k s]) -> l = acc \/ l = acc ++ [.tx k s] := fun l e => by
    rw [e]; split; exact .inl rfl; exact .inr rfl
   have hj : jstep acc (.tx k s) = _ := if_pos ht
   cases hl : acc.getLast? with
   | none =>
    rw [hl] at hj
    exact (two _ hj).imp id .inl
   | some e0 =>
    rw [hl] at hj
    cases e0 with
    | st t as => exact (two _ hj).imp id .inl
    | tx k0 s0 =>
     by_cases h0 : (k0 == ("text" : Str)) = true
     ·exact .inr (.inr ⟨k0, s0, k, s, rfl, rfl, hj.trans (if_pos h0)⟩)
     ·exact (two _ (hj.trans (if_neg h0))).imp id .inl
  ·exact .inr (.inl (if_neg ht))
theorem jstep_ok {acc : List Ev} {e : Ev} (h : ∀ x ∈ acc, evOk x) (he : evOk e) : ∀ x ∈ jstep acc e, evOk x := by
 rcases jstep_cases acc e with e1 | e1 | ⟨k0, s0, k, s, hl, rfl, e1⟩ <;> rw [e1]
 ·exact h
 ·exact List.forall_mem_append.mpr ⟨h, List.forall_mem_singleton.mpr he⟩
 ·exact List.forall_mem_append.mpr ⟨fun x hx => h x (List.dropLast_subset _ hx), List.forall_mem_singleton.mpr ⟨by decide +kernel, by rw [strOk_app, (h _ (List.mem_of_getLast? hl)).2, he.2]; rfl⟩⟩
theorem jn_ok {due : List Ev} (h : ∀ x ∈ due, evOk x) : ∀ x ∈ jn due, evOk x := by
 cases due with
 | nil => exact h
 | cons d ds =>
  have : ∀ (ds acc : List Ev), (∀ x ∈ acc, evOk x) -> (∀ x ∈ ds, evOk x) -> ∀ x ∈ ds.foldl jstep acc, evOk x := by
   intro ds
   induction ds with
   | nil => intro acc ha _; exact ha
   | cons e ds ih => intro acc ha hd; exact ih _ (jstep_ok ha (hd e (.head _))) fun x hx => hd x (.tail _ hx)
  exact this ds [d] (fun x hx => h x (by rw [List.mem_singleton.mp hx]; exact .head _)) fun x hx => h x (.tail _ hx)
noncomputable def evSm : Ev -> Prop
 | .tx _ s => s.length <= 100
 | .st _ _ => True
noncomputable def evDu (e : Ev) : Prop := evOk e /\ evSm e
theorem ok_snoc {due : List Ev} {e : Ev} (h : ∀ x ∈ due, evDu x) (he : evDu e) : ∀ x ∈ due ++ [e], evDu x := fun x hx => by
 rcases List.mem_append.mp hx with hx | hx
 ·exact h x hx
 ·rw [List.mem_singleton.mp hx]; exact he
noncomputable def flTk (x : Str) : List Tk := if x.length = 0 then [] else [.text x.cps.toList]
theorem Run.app {r r' r'' : RS} {a b : List Tk} (h : Run r a r') (h' : Run r' b r'') : Run r (a ++ b) r'' := by
 induction h with
 | nil => exact h'
 | cons hs hn _ ih =>
  refine .cons hs (fun ht => ?_) (ih h')
  obtain ⟨t', ts', e, ht'⟩ := hn ht
  exact ⟨t', ts' ++ b, by rw [e]; rfl, ht'⟩
theorem run_two {ev : List Ev} {nm : List (Px × Bool)} {lv : List RL} {x : Str} {tk : Tk} {r' : RS} (hs : Step ⟨ev ++ pend x, nm, lv⟩ tk r') (ht : tk.isText = false) : Run ⟨ev, nm, lv⟩ (flTk x ++ [tk]) r' := by
 unfold flTk
 by_cases hx : x.length = 0
 ·rw [if_pos hx]
  unfold pend at hs
  rw [if_pos hx, List.append_nil] at hs
  exact .cons hs (fun h => by rw [ht] at h; cases h) .nil
 ·rw [if_neg hx]
  unfold pend at hs
  rw [if_neg hx] at hs
  refine .cons (.text x.cps.toList fun e => hx ?_) (fun _ => ⟨tk, [], rfl, ht⟩) ?_
  ·have : x.length = x.cps.toList.length := by simp [Str.length]
   rw [this, e]; rfl
  ·rw [<- Str_eta]
   exact .cons hs (fun h => by rw [ht] at h; cases h) .nil
theorem flush_out (t : St) (hs : t.seen = true) : outL (flush t).out = outL t.out ++ (flTk (catS t.data)).flatMap Tk.s := by
 unfold flush flTk
 dsimp only
 by_cases hx : (catS t.data).length = 0
 ·rw [if_neg (by simp [hx]), if_pos hx]; simp
 ·rw [if_pos ⟨hx, hs⟩, if_neg hx, outL_app]
  congr 1
inductive Stk (rw : Bool) : Lv -> List PE -> List (Px × Bool) -> List RL -> Prop
 | base {a l} : LvOk l xml1 -> (l.map Prod.fst).Nodup -> Stk rw [(a, xml1)] [] [] [l]
 | push {D path nm lv a nn e p l} : Stk rw D path nm lv -> LvOk l (nn ++ flat D) -> (l.map Prod.fst).Nodup ->
   ((e.n.1, p) ∈ nn ++ flat D \/ (e.n.1 = 0 /\ p = 0 /\ rw = false /\ (0 : Px) ∉ (nn ++ flat D).map Prod.snd)) -> Stk rw (D ++ [(a, nn)]) (path ++ [e]) (nm ++ [(p, e.n.2)]) (lv ++ [l])
theorem Stk.len {rw : Bool} {D : Lv} {path : List PE} {nm : List (Px × Bool)} {lv : List RL} (h : Stk rw D path nm lv) : D.length = path.length + 1 := by
 induction h with
 | base => rfl
 | push _ _ _ _ ih => simp [ih]
theorem Stk.last {rw : Bool} {D : Lv} {path : List PE} {nm : List (Px × Bool)} {lv : List RL} (h : Stk rw D path nm lv) : ∃ lv' l, lv = lv' ++ [l] /\ LvOk l (flat D) /\ (l.map Prod.fst).Nodup := by
 cases h with
 | base h1 h2 => exact ⟨[], _, rfl, h1, h2⟩
 | push h h1 h2 h3 => exact ⟨_, _, rfl, by rw [flat_snoc]; exact h1, h2⟩
set_option tactic.hygienic true in
theorem Stk.pop {rw : Bool} {D : Lv} {path : List PE} {e : PE} {nm : List (Px × Bool)} {lv : List RL} (h : Stk rw D (path ++ [e]) nm lv) :
  ∃ D' a nn p nm' lv' l, D = D' ++ [(a, nn)] /\ nm = nm' ++ [(p, e.n.2)] /\ lv = lv' ++ [l] /\ Stk rw D' path nm' lv' /\ LvOk l (nn ++ flat D') /\ ((e.n.1, p) ∈ nn ++ flat D' \/ (e.n.1 = 0 /\ p = 0 /\ rw = false /\ (0 : Px) ∉ (nn ++ flat D').map Prod.snd)) := by
 generalize hp : path ++ [e] = pp at h
 cases h with
 | base => simp at hp
 | push h h1 h2 h3 =>
  rename_i D path' nm lv a nn e' p l
  have h4 := List.append_inj' hp rfl
  have h5 : e = e' := by simpa using h4.2
  obtain ⟨h6, _⟩ := h4
  subst h5 h6
  exact ⟨D, a, nn, p, nm, lv, l, rfl, rfl, rfl, h, h1, h3⟩
structure NOk (t : St) (path : List PE) : Prop where
 at_ : ∃ base rest : Lv, t.N = base ++ rest /\ rest.length = path.length + 1 /\ (t.rw = false -> (1 : U) ∈ (flat base).map Prod.fst /\ (2 : U) ∈ (flat base).map Prod.fst) /\
  ∀ (i : Nat) (e : PE) (x : Addr × List (U × Px)), path[i]? = some e -> rest[i]? = some x -> ∀ u ∈ e.told, u ∈ x.2.map Prod.fst
theorem NOk.ne {t : St} {path : List PE} (h : NOk t path) : t.N ≠ [] := by
 obtain ⟨base, rest, e, hl, _⟩ := h.at_
 intro h0
 rw [h0] at e
 have := congrArg List.length e
 simp at this
 lia
structure LI (b : Bool) (i : Nat) (t : St) (due : List Ev) (path : List PE) (ts : List Tk) (rs : RS) : Prop where
 run : Run rs0 ts rs
 out : outL t.out = ts.flatMap Tk.s
 duj : jn due = rs.ev ++ pend (catS t.data)
 dne : due ≠ []
 last : lastNT rs.ev
 qi : QI b t
 stk : Stk t.rw t.D path rs.nm rs.lv
 nok : NOk t path
 seen : t.seen = true
 done : t.done = false
 ps : t.ps.length = path.length + 1
 pne : path ≠ []
 dl : t.data.length <= i
 dz : (t.data.map (·.length)).sum <= 4 * i
 ol : t.out.length <= 6 * i
 nl : t.N.length <= i + 2
 nf : (flat t.N).length <= 7 + 3 * i
 pl : path.length <= i
 sc : (scU path).length <= 3 * i
 dul : due.length <= i
 tz : (outL t.out).length + 6 * (catS t.data).length <= 6000 * i
 tl : ts.length <= 2 * i
 dok : ∀ e ∈ due, evDu e
theorem LI.ok2 {b : Bool} {i : Nat} {t : St} {due : List Ev} {path : List PE} {ts : List Tk} {rs : RS} (h : LI b i t due path ts rs) (hi : i <= 130) : Ok2 t :=
 ⟨by have := h.dz; lia, by have := h.dl; lia, by have := h.ol; lia⟩
theorem LI.ok {b : Bool} {i : Nat} {t : St} {due : List Ev} {path : List PE} {ts : List Tk} {rs : RS} (h : LI b i t due path ts rs) (hi : i <= 130) : Ok t where
 D := h.qi.D0
 Dl := by have := h.stk.len; have := h.pl; lia
 Df := by have := h.qi.len; lia
 Nl := by have := h.nl; lia
 Nf := by have := h.nf; lia
 pm := h.qi.pm.len
 pm0 := fun x hx => (h.qi.pm.ne0 hx).1
theorem LI.data {b : Bool} {i : Nat} {t : St} {due : List Ev} {path : List PE} {ts : List Tk} {rs : RS} (h : LI b i t due path ts rs) {x : Str} (hx : x.length <= 4) (hxo : PyData.strOk x = true) : LI b (i + 1) { t with data := t.data ++ [x] } (due ++ [.tx "text" x]) path ts rs where
 run := h.run
 out := h.out
 duj := by
  show _ = rs.ev ++ pend (catS (t.data ++ [x]))
  rw [cat_app, cat_one]
  exact jn_text h.dne h.duj h.last x
 dne := by simp
 last := h.last
 qi := ⟨h.qi.D0, h.qi.g, h.qi.nd, h.qi.xm, h.qi.n, h.qi.pm⟩
 stk := h.stk
 nok := ⟨h.nok.at_⟩
 seen := h.seen
 done := h.done
 ps := h.ps
 pne := h.pne
 dl := by have := h.dl; simp; lia
 dz := by have := h.dz; simp; lia
 ol := by have := h.ol; show t.out.length <= _; lia
 nl := by have := h.nl; show t.N.length <= _; lia
 nf := by have := h.nf; show (flat t.N).length <= _; lia
 pl := by have := h.pl; lia
 sc := by have := h.sc; lia
 dul := by have := h.dul; simp; lia
 tz := by
  have := h.tz
  show (outL t.out).length + 6 * (catS (t.data ++ [x])).length <= _
  rw [cat_app, cat_one, str_len_append]
  lia
 tl := by have := h.tl; lia
 dok := ok_snoc h.dok ⟨⟨by decide +kernel, hxo⟩, Nat.le_trans hx (by decide)⟩
theorem flTk_s (x : Str) : ((flTk x).flatMap Tk.s).length <= 6 * x.length := by
 unfold flTk
 split
 ·simp
 ·have := (escC_len x.cps.toList).1
  have e : x.cps.toList.length = x.length := by simp [Str.length]
  simp only [List.flatMap_cons, List.flatMap_nil, List.append_nil]
  show (escC _).length <= _
  lia
theorem flTk_len (x : Str) : (flTk x).length <= 1 := by
 unfold flTk
 split <;> simp
theorem flush_len (t : St) : (flush t).out.length <= t.out.length + 1 := by
 unfold flush
 dsimp only
 split
 ·simp
 ·lia
theorem pend_nil : pend (catS []) = [] := rfl
theorem LI.mark {b : Bool} {i : Nat} {t : St} {due : List Ev} {path : List PE} {ts : List Tk} {rs : RS} (h : LI b i t due path ts rs) {tk : Tk} {e : Ev} {s : Str} (hs : s.cps.toList = tk.s) (hl : s.length <= 200) (ht : tk.isText = false) (he : e.isText = false) (heo : evDu e)
  (hst : ∀ ev, Step ⟨ev, rs.nm, rs.lv⟩ tk ⟨ev ++ [e], rs.nm, rs.lv⟩) : LI b (i + 1) (outSt t s) (due ++ [e]) path (ts ++ (flTk (catS t.data) ++ [tk])) ⟨rs.ev ++ pend (catS t.data) ++ [e], rs.nm, rs.lv⟩ := by
 have hfo := flush_out t h.seen
 have hfl := flush_len t
 have ho : outL (outSt t s).out = (ts ++ (flTk (catS t.data) ++ [tk])).flatMap Tk.s := by
  show outL ((flush t).out ++ [s]) = _
  rw [outL_app, hfo, h.out, List.flatMap_append, List.flatMap_append, List.append_assoc]
  congr 1
  show _ ++ (s.cps.toList ++ []) = _ ++ (tk.s ++ [])
  rw [hs]
 exact {
  run := h.run.app (run_two (hst _) ht)
  out := ho
  duj := by
   show _ = _ ++ pend (catS [])
   rw [pend_nil, List.append_nil, jn_other h.dne he, h.duj]
  dne := by simp
  last := ⟨_, _, rfl, he⟩
  qi := ⟨h.qi.D0, h.qi.g, h.qi.nd, h.qi.xm, h.qi.n, h.qi.pm⟩
  stk := h.stk
  nok := ⟨h.nok.at_⟩
  seen := h.seen
  done := h.done
  ps := h.ps
  pne := h.pne
  dl := Nat.zero_le _
  dz := Nat.zero_le _
  ol := by
   have := h.ol
   show ((flush t).out ++ [s]).length <= _
   rw [List.length_append, List.length_singleton]; lia
  nl := by have := h.nl; show t.N.length <= _; lia
  nf := by have := h.nf; show (flat t.N).length <= _; lia
  pl := by have := h.pl; lia
  sc := by have := h.sc; lia
  dul := by have := h.dul; simp; lia
  tz := by
   have h1 := h.tz
   have h2 := flTk_s (catS t.data)
   show (outL ((flush t).out ++ [s])).length + 6 * (catS []).length <= _
   have h3 : (catS []).length = 0 := rfl
   have h4 : (outL [s]).length = s.length := by simp [outL, Str.length]
   rw [outL_app, hfo, List.length_append, List.length_append, h3, h4]
   lia
  tl := by
   have h1 := h.tl
   have h2 := flTk_len (catS t.data)
   rw [List.length_append, List.length_append, List.length_singleton]; lia
  dok := ok_snoc h.dok heo }
theorem str_of_cps {x : Str} {l : List Nat} (h : x.cps.toList = l) : x = Sl l := by rw [Str_eta x, h]
theorem len_cps (x : Str) : x.length = x.cps.toList.length := by simp [Str.length]
theorem piD_len {x : Str} (hx : x.length <= 4) : (piD x).length <= 100 := by
 unfold piD
 rw [str_len_append, str_len_append]
 split
 ·rw [str_len_append]
  show 3 + (1 + x.length) + 2 <= 100
  lia
 ·exact (by decide : 3 + 0 + 2 <= 100)
section
variable {b : Bool} {i : Nat} {t : St} {due : List Ev} {path : List PE} {ts : List Tk} {rs : RS}
theorem LI.comment (h : LI b i t due path ts rs) {x : Str} (hx : x.length <= 4) (hxo : PyData.strOk x = true) : ∃ ts' rs', LI b (i + 1) (outSt t (("<!--" : Str) ++ escCs x ++ "-->")) (due ++ [.tx "comment" (("<!--" : Str) ++ x ++ "-->")]) path ts' rs' := by
 have h1 : ("<!--" : Str).cps.toList = cmO := by decide +kernel
 have h2 : ("-->" : Str).cps.toList = cmC := by decide +kernel
 refine ⟨_, _, h.mark (tk := .comment x.cps.toList) ?_ ?_ rfl rfl ⟨⟨by decide +kernel, by rw [strOk_app, strOk_app, hxo]; decide +kernel⟩, by show (_ : Str).length <= 100; rw [str_len_append, str_len_append]; show 4 + x.length + 3 <= 100; lia⟩ fun ev => ?_⟩
 ·rw [app_cps, app_cps, h1, h2]
  show cmO ++ (Sl (escC x.cps.toList)).cps.toList ++ cmC = _
  rw [cps_Sl]
  rfl
 ·have := escCs_len hx
  rw [str_len_append, str_len_append]
  show 4 + _ + 3 <= _
  lia
 ·rw [show (("<!--" : Str) ++ x ++ "-->") = Sl (cmO ++ x.cps.toList ++ cmC) from str_of_cps (by rw [app_cps, app_cps, h1, h2])]
  exact .comment _
theorem LI.pi (h : LI b i t due path ts rs) {x : Str} (hx : x.length <= 4) (hxo : PyData.strOk x = true) : ∃ ts' rs', LI b (i + 1) (outSt t (piS x)) (due ++ [.tx "pi" (piD x)]) path ts' rs' := by
 have h1 : ("<?" : Str).cps.toList = [60, 63] := by decide +kernel
 have h2 : ("t" : Str).cps.toList = [116] := by decide +kernel
 have h3 : (" " : Str).cps.toList = [32] := by decide +kernel
 have h4 : ("?>" : Str).cps.toList = [63, 62] := by decide +kernel
 have h5 : ("<?t" : Str).cps.toList = [60, 63, 116] := by decide +kernel
 have h6 : ("" : Str).cps.toList = [] := by decide +kernel
 have hne : (x.length ≠ 0) ↔ (x.cps.toList ≠ []) := by rw [len_cps]; simp [List.length_eq_zero_iff]
 refine ⟨_, _, h.mark (tk := .pi x.cps.toList) ?_ ?_ rfl rfl ⟨⟨by decide +kernel, by unfold piD; split <;> simp only [strOk_app, hxo] <;> decide +kernel⟩, piD_len hx⟩ fun ev => ?_⟩
 ·unfold piS
  show _ = piO x.cps.toList ++ escC x.cps.toList ++ piC
  unfold piO piC
  by_cases h0 : x.length = 0
  ·have hx0 : x.cps.toList = [] := List.length_eq_zero_iff.mp (by rw [<- len_cps]; exact h0)
   rw [if_neg (by simp [h0]), app_cps, app_cps, h1, h2, h4, hx0]
   rfl
  ·rw [if_pos h0, app_cps, app_cps, app_cps, app_cps, h1, h2, h3, h4, if_neg (hne.mp h0)]
   show _ ++ (Sl (escC x.cps.toList)).cps.toList ++ _ = _
   rw [cps_Sl]
   simp
 ·have := escCs_len hx
  unfold piS
  split
  ·rw [str_len_append, str_len_append, str_len_append, str_len_append]
   show 2 + 1 + 1 + _ + 2 <= _
   lia
  ·exact (by decide : 5 <= 200)
 ·rw [show piD x = Sl (piO x.cps.toList ++ x.cps.toList ++ piC) from str_of_cps ?_]
  ·exact .pi _
  ·unfold piD piO piC
   rw [app_cps, app_cps, h5, h4]
   by_cases h0 : x.length = 0
   ·have hx0 : x.cps.toList = [] := List.length_eq_zero_iff.mp (by rw [<- len_cps]; exact h0)
    have hxe : x = ("" : Str) := by rw [str_nil h0]; rfl
    rw [hxe]; rfl
   ·have hxe : (x != ("" : Str)) = true := by
     have : x ≠ ("" : Str) := fun e => h0 (by rw [e]; rfl)
     simpa using this
    rw [if_pos hxe, app_cps, h3, if_neg (hne.mp h0)]
    simp
theorem qn_again {t : St} (hq : QI b t) {u : U} {p : Px} (h : (u, p) ∈ flat t.D \/ (u = 0 /\ p = 0 /\ t.rw = false /\ (0 : Px) ∉ (flat t.D).map Prod.snd)) : qn t u = some (p, false, false) := by
 unfold qn
 rcases h with h | ⟨rfl, rfl, hr, h0⟩
 ·cases hl : look u (flat t.D) [] with
  | none =>
   have := look_none hq.fn (fun x _ hx => by cases hx) hl
   exact absurd (List.mem_map.mpr ⟨_, h, rfl⟩) this
  | some p' =>
   have hm := look_some hl
   have : p' = p := by
    have hpw := hq.nd
    have h1 := List.getElem_of_mem hm
    have h2 := List.getElem_of_mem h
    obtain ⟨i, hi, e1⟩ := h1
    obtain ⟨j, hj, e2⟩ := h2
    by_cases hij : i = j
    ·subst hij; rw [e1] at e2; exact (Prod.mk.inj e2).2
    ·have hpw := List.pairwise_iff_getElem.mp hq.nd
     rcases Nat.lt_or_gt_of_ne hij with h3 | h3
     ·have := hpw i j (by rw [lnM]; exact hi) (by rw [lnM]; exact hj) h3
      rw [List.getElem_map, List.getElem_map, e1, e2] at this
      exact absurd rfl this
     ·have := hpw j i (by rw [lnM]; exact hj) (by rw [lnM]; exact hi) h3
      rw [List.getElem_map, List.getElem_map, e1, e2] at this
      exact absurd rfl this
   rw [this]
 ·cases hl : look 0 (flat t.D) [] with
  | some p' =>
   have hm := look_some hl
   have := hq.g _ hm
   unfold gq at this
   rw [hr, if_neg (by decide)] at this
   exact absurd rfl this.2
  | none =>
   dsimp only
   rw [if_neg (by simp [hr]), if_pos ⟨rfl, h0⟩]
end
theorem Stk.xm {rw : Bool} {D : Lv} {path : List PE} {nm : List (Px × Bool)} {lv : List RL} (h : Stk rw D path nm lv) : ((1 : U), (1 : Px)) ∈ flat D := by
 induction h with
 | base => exact .head _
 | push _ _ _ _ ih => rw [flat_snoc]; exact memR _ ih
structure FI (i : Nat) (t : St) (due : List Ev) (ts : List Tk) (rs : RS) : Prop where
 run : Run rs0 ts rs
 out : outL t.out = ts.flatMap Tk.s
 duj : jn due = rs.ev
 dne : due ≠ []
 ol : t.out.length <= 6 * i
 dul : due.length <= i
 tz : (outL t.out).length <= 6000 * i
 tl : ts.length <= 2 * i
 dok : ∀ e ∈ due, evDu e
theorem nm_ok (n : Nm) : PyData.strOk (nmS n) = true := by
 obtain ⟨u, l⟩ := n
 have : ∀ (u : U) (l : Bool), PyData.strOk (nmS (u, l)) = true := by decide +kernel
 exact this u l
section
variable {b : Bool} {i : Nat} {t : St} {due : List Ev} {path : List PE} {ts : List Tk} {rs : RS} {e : PE}
theorem QI.flush (h : QI b t) : QI b (flush t) := ⟨h.D0, h.g, h.nd, h.xm, h.n, h.pm⟩
theorem endStr (p : Px) (l : Bool) : (("</" : Str) ++ wn p l ++ ">").cps.toList = (Tk.stop p l).s := by
 have h1 : ("</" : Str).cps.toList = [60, 47] := by decide +kernel
 have h2 : (">" : Str).cps.toList = [62] := by decide +kernel
 rw [app_cps, app_cps, h1, h2]
 simp [Tk.s]
theorem LI.end (h : LI b i t due (path ++ [e]) ts rs) : ∃ p, qn (flush t) e.n.1 = some (p, false, false) /\
  ∃ ts' rs', FI (i + 1) (endSt t (p, false, false) e.n) (due ++ [.tx "end" (nmS e.n)]) ts' rs' /\ (path ≠ [] -> LI b (i + 1) (endSt t (p, false, false) e.n) (due ++ [.tx "end" (nmS e.n)]) path ts' rs') := by
 obtain ⟨D', a, nn, p, nm', lv', l, hD, hnm, hlv, hstk, hlo, hf⟩ := h.stk.pop
 have hfl : flat t.D = nn ++ flat D' := by rw [hD, flat_snoc]
 refine ⟨p, qn_again (t := flush t) h.qi.flush (by show (_ ∈ flat t.D) \/ _; rw [hfl]; exact hf.imp id fun ⟨a, b, c, d⟩ => ⟨a, b, c, by show _ ∉ (flat t.D).map _; rw [hfl]; exact d⟩), ?_⟩
 obtain ⟨u0, hu0⟩ := hlo.zero
 have hlk : l.lookup p = some e.n.1 := by
  rcases hf with hf | ⟨h1, h2, _, h3⟩
  ·exact hlo.at_ _ hf
  ·rw [h2, h1]; exact hlo.none h3
 have hrs : rs = ⟨rs.ev, nm' ++ [(p, e.n.2)], lv' ++ [l]⟩ := by rw [<- hnm, <- hlv]
 have hrun : Run rs0 (ts ++ (flTk (catS t.data) ++ [Tk.stop p e.n.2])) ⟨rs.ev ++ pend (catS t.data) ++ [.tx "end" (nmS e.n)], nm', lv'⟩ := by
  refine h.run.app ?_
  rw [hrs]
  exact run_two (.stop p e.n.2 hlk hu0) rfl
 have hfo := flush_out t h.seen
 have hfll := flush_len t
 have hout : outL (endSt t (p, false, false) e.n).out = (ts ++ (flTk (catS t.data) ++ [Tk.stop p e.n.2])).flatMap Tk.s := by
  show outL ((flush t).out ++ [("</" : Str) ++ wn p e.n.2 ++ ">"]) = _
  rw [outL_app, hfo, h.out, List.flatMap_append, List.flatMap_append, List.append_assoc]
  congr 1
  show _ ++ ((("</" : Str) ++ wn p e.n.2 ++ ">").cps.toList ++ []) = _ ++ ((Tk.stop p e.n.2).s ++ [])
  rw [endStr]
 have hduj : jn (due ++ [.tx "end" (nmS e.n)]) = rs.ev ++ pend (catS t.data) ++ [.tx "end" (nmS e.n)] := by
  rw [jn_other h.dne rfl, h.duj]
 have hol : (endSt t (p, false, false) e.n).out.length <= 6 * (i + 1) := by
  have := h.ol
  show ((flush t).out ++ [_]).length <= _
  rw [List.length_append, List.length_singleton]; lia
 have hdul : (due ++ [Ev.tx "end" (nmS e.n)]).length <= i + 1 := by have := h.dul; simp; lia
 have htz : (outL (endSt t (p, false, false) e.n).out).length <= 6000 * (i + 1) := by
  have h1 := h.tz
  have h2 := flTk_s (catS t.data)
  have hw := wn_len p e.n.2
  show (outL ((flush t).out ++ [("</" : Str) ++ wn p e.n.2 ++ ">"])).length <= _
  have h4 : (outL [("</" : Str) ++ wn p e.n.2 ++ ">"]).length = (("</" : Str) ++ wn p e.n.2 ++ ">").length := by simp [outL, Str.length]
  have h5 : (("</" : Str) ++ wn p e.n.2 ++ ">").length = 2 + (wn p e.n.2).length + 1 := by rw [str_len_append, str_len_append]; rfl
  rw [outL_app, hfo, List.length_append, List.length_append, h4, h5]
  lia
 have htl : (ts ++ (flTk (catS t.data) ++ [Tk.stop p e.n.2])).length <= 2 * (i + 1) := by
  have h1 := h.tl
  have h2 := flTk_len (catS t.data)
  rw [List.length_append, List.length_append, List.length_singleton]; lia
 have hdok : ∀ x ∈ due ++ [Ev.tx "end" (nmS e.n)], evDu x := ok_snoc h.dok ⟨⟨by decide +kernel, nm_ok _⟩, Nat.le_trans (nm_len _) (by decide)⟩
 refine ⟨_, _, ⟨hrun, hout, hduj, by simp, hol, hdul, htz, htl, hdok⟩, fun hpne => ?_⟩
 have hDd : (endSt t (p, false, false) e.n).D = D' := by
  show t.D.dropLast = D'
  rw [hD, List.dropLast_concat]
 have hpl : 0 < path.length := List.length_pos_iff.mpr hpne
 have hps := h.ps
 have hplen : (path ++ [e]).length = path.length + 1 := by simp
 have hpsd : t.ps.dropLast.length = path.length + 1 := by rw [List.length_dropLast, hps, hplen]; lia
 have hNs : ∀ x ∈ flat t.N.dropLast, x ∈ flat t.N := fun x hx => by
  unfold flat at hx ⊢
  obtain ⟨y, hy, hxy⟩ := List.mem_flatMap.mp hx
  exact List.mem_flatMap.mpr ⟨y, List.mem_reverse.mpr (List.dropLast_subset _ (List.mem_reverse.mp hy)), hxy⟩
 exact {
  run := hrun
  out := hout
  duj := by
   show _ = _ ++ pend (catS [])
   rw [pend_nil, List.append_nil]; exact hduj
  dne := by simp
  last := ⟨_, _, rfl, rfl⟩
  qi := {
   D0 := by rw [hDd]; intro e0; have := hstk.len; rw [e0] at this; simp at this
   g := fun x hx => by
    rw [hDd] at hx
    exact h.qi.g x (by rw [hfl]; exact memR _ hx)
   nd := by
    rw [hDd]
    have := h.qi.nd
    rw [hfl, List.map_append] at this
    exact (List.nodup_append.mp this).2.1
   xm := by rw [hDd]; exact hstk.xm
   n := fun hr x hx => h.qi.n hr x (hNs x hx)
   pm := h.qi.pm }
  stk := by rw [hDd]; exact hstk
  nok := by
   obtain ⟨base, rest, e1, e2, e3, e4⟩ := h.nok.at_
   obtain ⟨rest', x, rfl⟩ : ∃ r x, rest = r ++ [x] := by
    rcases List.eq_nil_or_concat rest with e0 | ⟨r, x, e0⟩
    ·rw [e0] at e2; simp at e2
    ·exact ⟨r, x, by rw [e0]; simp⟩
   refine ⟨base, rest', ?_, by rw [hplen] at e2; simpa using e2, e3, fun i f y hi hy u hu => e4 i f y ?_ ?_ u hu⟩
   ·show t.N.dropLast = _
    rw [e1, <- List.append_assoc, List.dropLast_concat]
   ·have := (List.getElem?_eq_some_iff.mp hi).1
    rw [List.getElem?_append_left this]; exact hi
   ·have := (List.getElem?_eq_some_iff.mp hy).1
    rw [List.getElem?_append_left this]; exact hy
  seen := h.seen
  done := by
   show (t.ps.dropLast.length == 1) = false
   rw [hpsd]
   simp
   intro e0; exact hpne e0
  ps := hpsd
  pne := hpne
  dl := Nat.zero_le _
  dz := Nat.zero_le _
  ol := hol
  nl := by show t.N.dropLast.length <= _; rw [List.length_dropLast]; exact Nat.le_trans (Nat.sub_le _ _) (Nat.le_succ_of_le h.nl)
  nf := by
   have h1 := h.nf
   show (flat t.N.dropLast).length <= _
   have : (flat t.N.dropLast).length <= (flat t.N).length := by
    rcases List.eq_nil_or_concat t.N with e0 | ⟨r, x, e0⟩
    ·rw [e0]; exact Nat.le_refl _
    ·rw [e0, List.concat_eq_append, List.dropLast_concat]
     obtain ⟨xa, xl⟩ := x
     rw [flat_snoc, List.length_append]; lia
   lia
  pl := by have := h.pl; rw [hplen] at this; lia
  sc := by
   have := h.sc
   have e0 : (scU (path ++ [e])).length = (scU path).length + e.told.length := by unfold scU; rw [List.flatMap_append]; simp
   lia
  dul := hdul
  tz := by
   have : (catS (endSt t (p, false, false) e.n).data).length = 0 := rfl
   lia
  tl := htl
  dok := hdok }
end
structure SI (b : Bool) (i : Nat) (t : St) (due : List Ev) (path : List PE) (ts : List Tk) (rs : RS) : Prop where
 run : Run rs0 ts rs
 out : outL t.out = ts.flatMap Tk.s
 fout : outL (flush t).out = outL t.out ++ (flTk (catS t.data)).flatMap Tk.s
 nxt : ∀ e : Ev, e.isText = false -> jn (due ++ [e]) = rs.ev ++ pend (catS t.data) ++ [e]
 qi : QI b t
 stk : Stk t.rw t.D path rs.nm rs.lv
 nok : NOk t path
 done : t.done = false
 ps : t.ps.length = path.length + 1
 dl : t.data.length <= i
 dz : (t.data.map (·.length)).sum <= 4 * i
 ol : t.out.length <= 6 * i
 nl : t.N.length <= i + 2
 nf : (flat t.N).length <= 7 + 3 * i
 pl : path.length <= i
 sc : (scU path).length <= 3 * i
 dul : due.length <= i
 tz : (outL t.out).length + 6 * (catS t.data).length <= 6000 * i
 tl : ts.length <= 2 * i
 dok : ∀ e ∈ due, evDu e
theorem LI.si {b : Bool} {i : Nat} {t : St} {due : List Ev} {path : List PE} {ts : List Tk} {rs : RS} (h : LI b i t due path ts rs) : SI b i t due path ts rs :=
 ⟨h.run, h.out, flush_out t h.seen, fun e he => by rw [jn_other h.dne he, h.duj], h.qi, h.stk, h.nok, h.done, h.ps, h.dl, h.dz, h.ol, h.nl, h.nf, h.pl, h.sc, h.dul, h.tz, h.tl, h.dok⟩
theorem SI.init (rw b : Bool) (l1 l2 l3 : Addr) : SI b 0 (t0 rw l1 l2 l3) [] [] [] rs0 where
 run := .nil
 out := rfl
 fout := rfl
 nxt := fun e _ => rfl
 qi := {
  D0 := by unfold t0; simp
  g := fun x hx => by
   have : x = (1, 1) := by simpa [t0, flat, xml1] using hx
   subst this
   show gq rw b [] (1, 1)
   unfold gq
   cases rw
   ·exact ⟨rfl, by decide⟩
   ·exact .inl rfl
  nd := by show ((xml1).map Prod.fst).Nodup; decide
  xm := .head _
  n := fun hr x hx => by
   cases rw with
   | true => cases hr
   | false =>
    have : ∀ b, ∀ x ∈ nsL, gN b x.2 = x.1 /\ x.1 ≠ 0 := by decide
    refine this b x ?_
    have e : flat (t0 false l1 l2 l3).N = [] ++ (nsL ++ []) := rfl
    rw [e] at hx
    simpa using hx
  pm := ⟨List.nodup_nil, fun x hx => (nomatch hx), fun i x hx => by
   have : ([] : List (U × Px))[i]? = some x := hx
   simp at this⟩ }
 stk := .base ⟨by decide, fun _ => by decide⟩ (by decide)
 nok := ⟨if rw = true then [] else [(l3, nsL)], [(l2, [])], rfl, rfl, fun hr => by
  have : rw = false := hr
  subst this
  exact ⟨by show (1 : U) ∈ nsL.map Prod.fst; decide, by show (2 : U) ∈ nsL.map Prod.fst; decide⟩, fun i e x hi => by simp at hi⟩
 done := rfl
 ps := rfl
 dl := Nat.le_refl _
 dz := Nat.le_refl _
 ol := Nat.le_refl _
 nl := by
  cases rw with
  | true => exact (by decide : 1 <= 2)
  | false => exact (by decide : 2 <= 2)
 nf := by
  cases rw with
  | true => exact (by decide : 0 <= 7)
  | false => exact (by decide : 7 <= 7)
 pl := Nat.le_refl _
 sc := Nat.le_refl _
 dul := Nat.le_refl _
 tz := Nat.le_refl 0
 tl := Nat.le_refl _
 dok := fun e he => by cases he
theorem own_ok (b : Bool) (r : Int) {k : Nat} (h : k < 3) : gN b (prK b r k) = ownK k /\ ownK k ≠ 0 := by
 have h2 : (r / 384 / 2 ^ k % 2).toNat < 2 := by
  have := Int.emod_lt_of_pos (r / 384 / 2 ^ k) (show (0 : Int) < 2 by decide)
  lia
 unfold prK
 generalize (r / 384 / 2 ^ k % 2).toNat = j at h2
 have : ∀ (b : Bool) (k : Fin 3) (j : Fin 2), gN b (((prefP b).getD k.val []).getD j.val 0) = ownK k.val /\ ownK k.val ≠ 0 := by decide
 exact this b ⟨k, h⟩ ⟨j, h2⟩
structure NJ (b : Bool) (k : Nat) (t : St) (T : St × List U) : Prop where
 N : ∃ N' a l add, t.N = N' ++ [(a, l)] /\ T.1.N = N' ++ [(a, l ++ add)] /\ add.map Prod.fst = T.2 /\ (∀ x ∈ add, gN b x.2 = x.1 /\ x.1 ≠ 0) /\ add.length <= k
 D : T.1.D = t.D
 pm : T.1.pm = t.pm
 rw : T.1.rw = t.rw
 ps : T.1.ps = t.ps
 done : T.1.done = t.done
 fo : (flush T.1).out = (flush t).out
 ol : T.1.out.length <= t.out.length + 1
 dl : T.1.data.length <= t.data.length
 dz : (T.1.data.map (·.length)).sum <= (t.data.map (·.length)).sum
theorem flush_of_nil {t : St} (h : t.data = []) : (flush t).out = t.out := by rw [flush_nil h]
theorem nsJ_ok {b : Bool} {r : Int} {us sc : List U} {t : St} (hN : t.N ≠ []) (k : Nat) (hk : k <= 3) : NJ b k t (nsJ b r us sc t k) := by
 induction k with
 | zero =>
  obtain ⟨N', ⟨a, l⟩, e⟩ : ∃ N' x, t.N = N' ++ [x] := by
   rcases List.eq_nil_or_concat t.N with e | ⟨N', x, e⟩
   ·exact absurd e hN
   ·exact ⟨N', x, by rw [e]; simp⟩
  exact ⟨⟨N', a, l, [], e, by rw [List.append_nil]; exact e, rfl, fun x hx => (by cases hx), Nat.le_refl _⟩, rfl, rfl, rfl, rfl, rfl, rfl, Nat.le_succ _, Nat.le_refl _, Nat.le_refl _⟩
 | succ k ih =>
  have ih := ih (Nat.le_of_succ_le hk)
  have hs : nsJ b r us sc t (k + 1) = if cnd r us sc k = true then (nsSt (nsJ b r us sc t k).1 (ownK k, prK b r k), (nsJ b r us sc t k).2 ++ [ownK k]) else nsJ b r us sc t k := rfl
  generalize nsJ b r us sc t k = Z at ih hs
  rw [hs]
  obtain ⟨N', a, l, add, e1, e2, e3, e4, e5⟩ := ih.N
  split
  ·refine ⟨⟨N', a, l, add ++ [(ownK k, prK b r k)], e1, ?_, ?_, ?_, ?_⟩, ih.D, ih.pm, ih.rw, ih.ps, ih.done, ?_, ?_, Nat.zero_le _, Nat.zero_le _⟩
   ·show tell Z.1.N _ = _
    rw [e2, tell_snoc, List.append_assoc]
   ·rw [List.map_append, e3]; rfl
   ·intro x hx
    rcases List.mem_append.mp hx with hx | hx
    ·exact e4 x hx
    ·rw [List.mem_singleton.mp hx]; exact own_ok b r (by lia)
   ·rw [List.length_append]; simpa using e5
   ·rw [flush_of_nil (show (nsSt Z.1 (ownK k, prK b r k)).data = [] from rfl)]
    exact ih.fo
   ·show (flush Z.1).out.length <= _
    rw [ih.fo]
    exact flush_len t
  ·exact ⟨⟨N', a, l, add, e1, e2, e3, e4, by lia⟩, ih.D, ih.pm, ih.rw, ih.ps, ih.done, ih.fo, ih.ol, ih.dl, ih.dz⟩
theorem nsJ_has {b : Bool} {r : Int} {us sc : List U} {t : St} {j : Nat} (hc : cnd r us sc j = true) (k : Nat) (h : j < k) : ownK j ∈ (nsJ b r us sc t k).2 := by
 induction k with
 | zero => cases h
 | succ k ih =>
  show ownK j ∈ (if cnd r us sc k = true then _ else _ : St × List U).2
  by_cases e : j = k
  ·subst e
   rw [if_pos hc]
   exact memR _ (.head _)
  ·have := ih (Nat.lt_of_le_of_ne (Nat.le_of_lt_succ h) e)
   split
   ·exact memL _ this
   ·exact this
theorem tags_mem (b : Bool) (r : Int) : (tgU b r).val <= 5 /\ (tgU b r = 0 -> b = true) := by
 have h6 : (r % 6).toNat < 6 := by have := Int.emod_lt_of_pos r (show (0 : Int) < 6 by decide); lia
 unfold tgU
 generalize (r % 6).toNat = j at h6
 have : ∀ (b : Bool) (j : Fin 6), ((tagsU b).getD j.val 0).val <= 5 /\ ((tagsU b).getD j.val 0 = 0 -> b = true) := by decide
 exact this b ⟨j, h6⟩
theorem keys_mem (b : Bool) (s : Int) : (kyU b s).val <= 5 /\ (kyU b s = 5 -> b = true) := by
 have h6 : (s % 6).toNat < 6 := by have := Int.emod_lt_of_pos s (show (0 : Int) < 6 by decide); lia
 unfold kyU
 generalize (s % 6).toNat = j at h6
 have : ∀ (b : Bool) (j : Fin 6), ((keysU b).getD j.val 0).val <= 5 /\ ((keysU b).getD j.val 0 = 5 -> b = true) := by decide
 exact this b ⟨j, h6⟩
theorem u_cases : ∀ u : U, u.val <= 5 -> u = 0 \/ u = 1 \/ u = 2 \/ ∃ k : Fin 3, u = ownK k.val := by decide
theorem flat_mem {D : Lv} {x : Addr × List (U × Px)} (h : x ∈ D) : ∀ y ∈ x.2, y ∈ flat D := fun y hy => by
 unfold flat
 exact List.mem_flatMap.mpr ⟨x, List.mem_reverse.mpr h, hy⟩
section
variable {b : Bool} {i : Nat} {t : St} {due : List Ev} {path : List PE} {ts : List Tk} {rs : RS} {r : Int} {K : Nat}
theorem SI.av (h : SI b i t due path ts rs) {T : St × List U} (hT : T = nsJ b r (usK b r K) (scU path) t 3) {bb : Addr} {n : Nm} (hn : n ∈ nds (tgN b r) (alK b r K)) : av (opD T.1 bb) n.1 := by
 have hnj := nsJ_ok (b := b) (r := r) (us := usK b r K) (sc := scU path) h.nok.ne 3 (Nat.le_refl _)
 rw [<- hT] at hnj
 have hus : n.1 ∈ usK b r K := by
  rcases nds_mem.mp hn with rfl | hn
  ·exact .head _
  ·obtain ⟨x, hx, rfl⟩ := List.mem_map.mp hn
   exact .tail _ (alK_keys b r x hx)
 have hv : n.1.val <= 5 := by
  rcases List.mem_cons.mp hus with e | hus
  ·rw [e]; exact (tags_mem b r).1
  ·obtain ⟨k, _, e⟩ := List.mem_map.mp hus
   rw [<- e]; exact (keys_mem b _).1
 unfold Mine.av
 split
 ·exact hv
 ·rename_i hr
  have hr' : t.rw = false := by
   have : T.1.rw = t.rw := hnj.rw
   have h2 : (opD T.1 bb).rw = T.1.rw := rfl
   rw [h2, this] at hr
   simpa using hr
  obtain ⟨N', a, l, add, e1, e2, e3, e4, e5⟩ := hnj.N
  obtain ⟨base, rest, f1, f2, f3, f4⟩ := h.nok.at_
  have up : ∀ u, u ∈ (flat t.N).map Prod.fst -> u ∈ (flat (opD T.1 bb).N).map Prod.fst := fun u hu => by
   show u ∈ (flat T.1.N).map Prod.fst
   rw [e1, flat_snoc] at hu
   rw [e2, flat_snoc]
   simp only [List.map_append, List.mem_append] at hu ⊢
   rcases hu with hu | hu
   ·exact .inl (.inl hu)
   ·exact .inr hu
  have inBase : ∀ u, u ∈ (flat base).map Prod.fst -> u ∈ (flat t.N).map Prod.fst := fun u hu => by
   rw [f1]
   obtain ⟨x, hx, rfl⟩ := List.mem_map.mp hu
   unfold flat at hx ⊢
   obtain ⟨y, hy, hxy⟩ := List.mem_flatMap.mp hx
   exact List.mem_map.mpr ⟨x, List.mem_flatMap.mpr ⟨y, List.mem_reverse.mpr (memL _ (List.mem_reverse.mp hy)), hxy⟩, rfl⟩
  rcases u_cases n.1 hv with e | e | e | ⟨k, e⟩
  ·exact .inl e
  ·right; rw [e]; exact up _ (inBase _ (f3 hr').1)
  ·right; rw [e]; exact up _ (inBase _ (f3 hr').2)
  ·right
   rw [e] at hus ⊢
   by_cases hsc : ownK k.val ∈ scU path
   ·obtain ⟨p, hp, hpu⟩ := List.mem_flatMap.mp hsc
    obtain ⟨j, hj, ej⟩ := List.getElem_of_mem hp
    have hj2 : j < rest.length := by lia
    have := f4 j p (rest[j]'hj2) (by rw [List.getElem?_eq_getElem hj, ej]) (List.getElem?_eq_getElem hj2) _ hpu
    obtain ⟨y, hy, ey⟩ := List.mem_map.mp this
    refine up _ (List.mem_map.mpr ⟨y, ?_, ey⟩)
    rw [f1]
    exact flat_mem (memR _ (List.getElem_mem hj2)) y hy
   ·have hc : cnd r (usK b r K) (scU path) k.val = true := by
     unfold cnd
     rw [show (usK b r K).contains (ownK k.val) = true by simpa using hus, show (scU path).contains (ownK k.val) = false by simpa using hsc]
     simp
    have := nsJ_has (b := b) (t := t) hc 3 k.isLt
    rw [<- hT, <- e3] at this
    show ownK k.val ∈ (flat T.1.N).map Prod.fst
    rw [e2, flat_snoc, List.map_append, List.map_append]
    exact memL _ (memR _ this)
theorem SI.opq (h : SI b i t due path ts rs) {T : St × List U} (hnj : NJ b 3 t T) {bb : Addr} : QI b (opD T.1 bb) where
 D0 := by show T.1.D ++ [(bb, [])] ≠ []; simp
 g := fun x hx => by
  have hx' : x ∈ flat (T.1.D ++ [(bb, [])]) := hx
  rw [flat_snoc, hnj.D] at hx'
  have := h.qi.g x (by simpa using hx')
  show gq T.1.rw b T.1.pm x
  rw [hnj.rw, hnj.pm]; exact this
 nd := by
  show ((flat (T.1.D ++ [(bb, [])])).map Prod.fst).Nodup
  rw [flat_snoc, hnj.D]; exact h.qi.nd
 xm := by
  show _ ∈ flat (T.1.D ++ [(bb, [])])
  rw [flat_snoc, hnj.D]; exact h.qi.xm
 n := fun hr x hx => by
  have hr' : t.rw = false := by rw [<- hnj.rw]; exact hr
  obtain ⟨N', a, l, add, e1, e2, e3, e4, e5⟩ := hnj.N
  have hx' : x ∈ flat T.1.N := hx
  rw [e2, flat_snoc] at hx'
  have old := h.qi.n hr' x
  rw [e1, flat_snoc] at old
  simp only [List.mem_append] at hx' old
  rcases hx' with (hx' | hx') | hx'
  ·exact old (.inl hx')
  ·exact e4 x hx'
  ·exact old (.inr hx')
 pm := by show PM T.1.pm; rw [hnj.pm]; exact h.qi.pm
theorem NJ.ok2 (h : SI b i t due path ts rs) (hi : i <= 130) {k : Nat} {T : St × List U} (hnj : NJ b k t T) : Ok2 T.1 :=
 ⟨by have := hnj.dz; have := h.dz; lia, by have := hnj.dl; have := h.dl; lia, by have := hnj.ol; have := h.ol; lia⟩
theorem NJ.Nf (h : SI b i t due path ts rs) (hi : i <= 130) {k : Nat} (hk : k <= 3) {T : St × List U} (hnj : NJ b k t T) : T.1.N ≠ [] /\ (flat T.1.N).length <= 4000 /\ T.1.N.length = t.N.length /\ (flat T.1.N).length <= (flat t.N).length + 3 := by
 obtain ⟨N', a, l, add, e1, e2, e3, e4, e5⟩ := hnj.N
 have h1 := h.nf
 have e6 : (flat T.1.N).length = (flat t.N).length + add.length := by
  rw [e1, e2, flat_snoc, flat_snoc]; simp; lia
 refine ⟨by rw [e2]; simp, by lia, by rw [e1, e2]; simp, by lia⟩
theorem SI.hrun (h : SI b i t due path ts rs) (hi : i <= 130) {T : St × List U} (hT : T = nsJ b r (usK b r K) (scU path) t 3) (bb : Addr) (ks : List Nm) (hks : ks.Perm (nds (tgN b r) (alK b r K))) (j : Nat) (hj : j < ks.length) :
  ∃ ti li, qRun (opD T.1 bb, []) (ks.take j) = some (ti, li) /\ Ok ti /\ ∀ n, ks[j]? = some n -> (qn ti n.1).isSome := by
 have hnj := nsJ_ok (b := b) (r := r) (us := usK b r K) (sc := scU path) h.nok.ne 3 (Nat.le_refl _)
 rw [<- hT] at hnj
 have hav : ∀ n ∈ ks, Mine.av (opD T.1 bb) n.1 := fun n hn => h.av hT (hks.mem_iff.mp hn)
 obtain ⟨ti, li, e, hq, hn, _⟩ := qRun_all (ks := ks.take j) (l := []) (h.opq hnj (bb := bb)) (fun n hm => hav n (List.mem_of_mem_take hm)) (fun x hx => by cases hx)
 have hNf := hnj.Nf h hi (Nat.le_refl _)
 refine ⟨ti, li, e, ⟨hq.D0, ?_, ?_, ?_, ?_, hq.pm.len, fun x hx => (hq.pm.ne0 hx).1⟩, fun n hnn => ?_⟩
 ·rw [hn.dl]
  show (T.1.D ++ [(bb, [])]).length <= _
  rw [hnj.D, List.length_append, h.stk.len]
  have := h.pl
  simp; lia
 ·have := hq.len; lia
 ·rw [hn.N]
  show T.1.N.length <= _
  rw [hNf.2.2.1]
  have := h.nl; lia
 ·rw [hn.N]; exact hNf.2.1
 ·obtain ⟨q, hq2, _⟩ := qn_step hq (av_nxt hn (hav n (List.mem_of_getElem? hnn)))
  rw [hq2]; rfl
end
theorem lkup_memN {n : Nm} {p : Px} {l : List (Nm × Px)} (h : l.lookup n = some p) : (n, p) ∈ l := by
 induction l with
 | nil => cases h
 | cons x l ih =>
  rw [List.lookup_cons] at h
  split at h
  ·rename_i e
   cases h
   rw [eq_of_beq e]; exact .head _
  ·exact .tail _ (ih h)
theorem at_len {x : Str × Str} (h1 : x.1.length <= 100) (h2 : x.2.length <= 100) : (atS x).cps.toList.length <= 704 := by
 rw [<- len_cps]; exact atS_len h1 h2
theorem flatMap_len {α β : Type} (f : α -> List β) (n : Nat) (l : List α) (h : ∀ x ∈ l, (f x).length <= n) : (l.flatMap f).length <= n * l.length := by
 induction l with
 | nil => exact Nat.zero_le _
 | cons x l ih =>
  rw [List.flatMap_cons, List.length_append, List.length_cons, Nat.mul_succ, Nat.add_comm]
  exact Nat.add_le_add (ih fun y hy => h y (.tail _ hy)) (h x (.head _))
theorem piece_ok (n : Int) : PyData.strOk (piece n) = true := by
 unfold piece
 have : (n % 13).toNat < 13 := by have := Int.emod_lt_of_pos n (show (0 : Int) < 13 by decide); lia
 have h2 : (n / 13 % 1114112).toNat < 1114112 := by have := Int.emod_lt_of_pos (n / 13) (show (0 : Int) < 1114112 by decide); lia
 generalize (n % 13).toNat = k at this
 generalize (n / 13 % 1114112).toNat = j at h2
 have hs : ∀ s ∈ signsL, PyData.strOk s = true := by decide +kernel
 have hl : (signsL ++ [Sl [j]]).length = 13 := rfl
 rw [List.getD_eq_getElem?_getD, List.getElem?_eq_getElem (by rw [hl]; exact this), Option.getD_some]
 have hm : (signsL ++ [Sl [j]])[k]'(by rw [hl]; exact this) ∈ signsL ++ [Sl [j]] := List.getElem_mem _
 rcases List.mem_append.mp hm with h | h
 ·exact hs _ h
 ·rw [List.mem_singleton.mp h]
  show (#[j] : Array Nat).all (· < 0x110000) = true
  simpa using h2
theorem pcS_ok (m r : Int) : PyData.strOk (pcS m r) = true := by
 unfold pcS
 split
 ·exact piece_ok r
 ·have h2 : (r % 1114112).toNat < 1114112 := by have := Int.emod_lt_of_pos r (show (0 : Int) < 1114112 by decide); lia
  show (#[(r % 1114112).toNat] : Array Nat).all (· < 0x110000) = true
  simpa using h2
theorem alK_ok (b : Bool) (r : Int) {k : Nat} : ∀ x ∈ alK b r k, PyData.strOk x.2 = true := by
 induction k with
 | zero => intro x hx; cases hx
 | succ k ih =>
  intro x hx
  rcases alPut_mem hx with h | ⟨_, h⟩
  ·exact ih x h
  ·rw [h]; exact piece_ok _
theorem start_out (tg : Str) (prs : List Pr) (p : Px) (l : Bool) (ats : List (Str × Str)) (he : ats = prs.map Pr.pv) (ht : tg = wn p l) :
  outL ([("<" : Str) ++ tg] ++ (if ats = [] then [] else [catS (ats.map atS)]) ++ [(">" : Str)]) = (Tk.start p l prs).s := by
 have h1 : ("<" : Str).cps.toList = [60] := by decide +kernel
 have h2 : (">" : Str).cps.toList = [62] := by decide +kernel
 have h3 : outL (if ats = [] then [] else [catS (ats.map atS)]) = prs.flatMap prS := by
  have e : outL (ats.map atS) = prs.flatMap prS := by
   rw [he]
   unfold outL prS
   rw [List.map_map, List.flatMap_map]
   rfl
  split
  ·rename_i h0
   rw [h0] at e
   rw [<- e]; rfl
  ·show (catS (ats.map atS)).cps.toList ++ [] = _
   rw [List.append_nil, cat_out, e]
 have h4 : ∀ x : Str, outL [x] = x.cps.toList := fun x => by unfold outL; simp
 rw [outL_app, outL_app, h3, h4, h4, h2, app_cps, h1, ht]
 show _ = 60 :: ((wn p l).cps.toList ++ (prs.flatMap prS ++ [62]))
 simp
theorem atts_app (l : RL) (nn : List (U × Px)) (rs : List Pr) (h : ∀ r ∈ rs, r.isAt = true) : atts l (nsPr nn ++ rs) = rs.map (Pr.full l) := by
 unfold atts
 have e1 : (nsPr nn).filter Pr.isAt = [] := List.filter_eq_nil_iff.mpr fun r hr => by
  obtain ⟨x, _, rfl⟩ := List.mem_map.mp hr
  simp [Pr.isAt]
 rw [List.filter_append, e1, List.nil_append, List.filter_eq_self.mpr h]
section
variable {b : Bool} {i : Nat} {t : St} {due : List Ev} {path : List PE} {ts : List Tk} {rs : RS} {r : Int} {K : Nat}
theorem SI.start (h : SI b i t due path ts rs) (hi : i <= 130) (hK : K <= 3) {T : St × List U} (hT : T = nsJ b r (usK b r K) (scU path) t 3) {bb : Addr} {ks : List Nm} {t' : St} {l : List (Nm × Px)} {nnl : List (U × Px)} {bN ta : Addr} {bp : Bool}
  (hks : ks.Perm (nds (tgN b r) (alK b r K))) (hrun : qRun (opD T.1 bb, []) ks = some (t', l)) (hkp : QKeep (opD T.1 bb) t' T.1.D bb nnl) :
  ∃ ts' rs', LI b (i + 1) (stEnd t' l nnl (tgN b r) (alK b r K) bp bN) (due ++ [.st (nmS (tgN b r)) (alE (alK b r K))]) (path ++ [⟨tgN b r, ta, T.2⟩]) ts' rs' := by
 have hnj := nsJ_ok (b := b) (r := r) (us := usK b r K) (sc := scU path) h.nok.ne 3 (Nat.le_refl _)
 rw [<- hT] at hnj
 have hA := alK_Al b r hK
 have hal := hA.len
 have hNf := hnj.Nf h hi (Nat.le_refl _)
 have hav : ∀ n ∈ ks, Mine.av (opD T.1 bb) n.1 := fun n hn => h.av hT (hks.mem_iff.mp hn)
 obtain ⟨t'', l'', e, hq, hn, hfnd⟩ := qRun_all (ks := ks) (l := []) (h.opq hnj (bb := bb)) hav (fun x hx => by cases hx)
 rw [hrun] at e
 obtain ⟨rfl, rfl⟩ : t' = t'' /\ l = l'' := by
  have := Option.some.inj e
  exact ⟨congrArg Prod.fst this, congrArg Prod.snd this⟩
 obtain ⟨nnl', hkp', hnl, hfst⟩ := qRun_keep (D' := T.1.D) (b := bb) (x := []) hrun rfl
 have hnn : nnl' = nnl := by
  have e1 := hkp.D
  rw [hkp'.D] at e1
  have := List.append_inj' e1 rfl
  simpa using this.2
 rw [hnn] at hnl
 have hksl : ks.length <= 4 := by
  rw [hks.length_eq]
  have := nds_len (n0 := tgN b r) (al := alK b r K)
  lia
 have hnl4 : nnl.length <= 4 := by simp at hnl; lia
 have hDt : t'.D = t.D ++ [(bb, nnl)] := by rw [hkp.D, hnj.D]
 have hrw : t'.rw = t.rw := by rw [hkp.rw]; exact hnj.rw
 have hF : flat t'.D = nnl ++ flat t.D := by rw [hDt, flat_snoc]
 have lk : ∀ n ∈ ks, ∃ p, l.lookup n = some p /\ Fnd t' n.1 p := fun n hn => by
  obtain ⟨p, hp⟩ := lookup_fst (l := l) (n := n) (by rw [hfst]; exact hn)
  exact ⟨p, hp, hfnd _ (lkup_memN hp)⟩
 have inK : ∀ n, n = tgN b r \/ n ∈ (alK b r K).map Prod.fst -> n ∈ ks := fun n hn => hks.mem_iff.mpr (nds_mem.mpr hn)
 have hfn : ∀ x ∈ nnl ++ flat t.D, ∀ y ∈ nnl ++ flat t.D, x.2 = y.2 -> x.1 = y.1 := fun x hx y hy => hq.fn x (by rw [hF]; exact hx) y (by rw [hF]; exact hy)
 have g0 : ∀ x ∈ nnl ++ flat t.D, x.2 = 0 -> t.rw = false /\ b = false /\ x.1 = 5 := fun x hx h0 => by
  have := hq.g x (by rw [hF]; exact hx)
  unfold gq at this
  rw [hrw] at this
  cases hr : t.rw with
  | true =>
   rw [hr, if_pos rfl] at this
   rcases this with rfl | hm
   ·exact absurd h0 (by decide)
   ·exact absurd h0 (hq.pm.ne0 hm).1
  | false =>
   rw [hr, if_neg (by decide), h0] at this
   cases b with
   | true => exact absurd this.1.symm this.2
   | false => exact ⟨rfl, rfl, this.1.symm⟩
 obtain ⟨p0, hp0, hf0⟩ := lk (tgN b r) (inK _ (.inl rfl))
 have hp0' : (l.lookup (tgN b r)).getD 0 = p0 := by rw [hp0]; rfl
 have hf0' : ((tgN b r).1, p0) ∈ nnl ++ flat t.D \/ ((tgN b r).1 = 0 /\ p0 = 0 /\ t.rw = false /\ (0 : Px) ∉ (nnl ++ flat t.D).map Prod.snd) := by
  rcases hf0 with hf | ⟨h1, h2, h3⟩
  ·left; rw [<- hF]; exact hf
  ·refine .inr ⟨h1, h2, by rw [<- hrw]; exact h3, fun hm => ?_⟩
   obtain ⟨x, hx, hx0⟩ := List.mem_map.mp hm
   have := (g0 x hx hx0).2.1
   rw [(tags_mem b r).2 h1] at this
   cases this
 obtain ⟨lv', ol, hlv, hlo, hkeys⟩ := h.stk.last
 let nn' := pick nnl (srtP nnl.length fun i j => pLt ((nnl.map fun x => (xnS x.2, uS x.1)).getD i ("", "")) ((nnl.map fun x => (xnS x.2, uS x.1)).getD j ("", "")))
 have hnn' : nn'.Perm nnl := pick_perm (srtP_perm hnl4 _)
 have hxn : xnL nnl = nn'.map fun x => (xnS x.2, uS x.1) := by
  unfold xnL srtL
  rw [lnM, pick_map]
 obtain ⟨prs, hprs⟩ : ∃ prs, prs = nsPr nn' ++ (alS (alK b r K)).map (atPr l) := ⟨_, rfl⟩
 have hlv2 : LvOk (nsAll ol prs) (nnl ++ flat t.D) := by rw [hprs]; exact start_lv hlo hfn hnn'
 have hkeys2 := all_keys prs ol hkeys
 obtain ⟨u0, hu0⟩ := hlv2.zero
 have hpu : (nsAll ol prs).lookup p0 = some (tgN b r).1 := by
  rcases hf0' with hf | ⟨h1, h2, _, h3⟩
  ·exact hlv2.at_ _ hf
  ·rw [h2, h1]; exact hlv2.none h3
 have hperm := alS_len hA
 have hatv : ∀ x ∈ alS (alK b r K), x.1.1 ≠ 0 -> ∃ p, l.lookup x.1 = some p /\ p ≠ 0 /\ (nsAll ol prs).lookup p = some x.1.1 := fun x hx h0 => by
  have hx' := hperm.mem_iff.mp hx
  obtain ⟨p, hp, hf⟩ := lk x.1 (inK _ (.inr (List.mem_map_of_mem hx')))
  have hm : (x.1.1, p) ∈ nnl ++ flat t.D := by
   rcases hf with hf | ⟨h1, _, _⟩
   ·rw [<- hF]; exact hf
   ·exact absurd h1 h0
  refine ⟨p, hp, fun hp0 => ?_, hlv2.at_ _ hm⟩
  obtain ⟨_, h2, h3⟩ := g0 _ hm hp0
  have hk := alK_keys b r x hx'
  obtain ⟨k, _, ek⟩ := List.mem_map.mp hk
  have := (keys_mem b (sdK r k)).2 (by rw [ek]; exact h3)
  rw [h2] at this; cases this
 have hfull : ∀ x ∈ alS (alK b r K), (atPr l x).full (nsAll ol prs) = nmE x := fun x hx => by
  unfold atPr Pr.full nmE res
  dsimp only
  by_cases h0 : x.1.1 = 0
  ·rw [if_pos h0, if_pos rfl, <- h0]
  ·obtain ⟨p, hp, hpn, hl⟩ := hatv x hx h0
   rw [if_neg h0, hp]
   show (nmS (if p = 0 then 0 else ((nsAll ol prs).lookup p).getD 0, x.1.2), x.2) = _
   rw [if_neg hpn, hl]
   rfl
 have hatts : atts (nsAll ol prs) prs = alE (alK b r K) := by
  conv => lhs; arg 2; rw [hprs]
  rw [atts_app _ _ _ (fun q hq => by obtain ⟨x, _, rfl⟩ := List.mem_map.mp hq; rfl), List.map_map, alE_eq]
  exact List.map_congr_left fun x hx => hfull x hx
 have hplen : prs.length <= 7 := by
  rw [hprs, List.length_append, lnM]
  have h1 : (nsPr nn').length = nnl.length := by unfold nsPr; rw [lnM]; exact hnn'.length_eq
  have h2 := hperm.length_eq
  lia
 have halen : (alE (alK b r K)).length <= 4 := by
  rw [alE_eq, lnM]
  have h2 := hperm.length_eq
  lia
 have hpv : atL l nnl (alK b r K) = prs.map Pr.pv := by
  unfold atL
  rw [hxn, hprs, List.map_append, List.map_map]
  congr 1
  ·unfold nsPr
   rw [List.map_map]
   rfl
  ·exact List.map_congr_left fun x hx => (atPr_key l x).symm
 have hstep : ∀ ev, Step ⟨ev, rs.nm, rs.lv⟩ (.start p0 (tgN b r).2 prs) ⟨ev ++ [.st (nmS (tgN b r)) (alE (alK b r K))], rs.nm ++ [(p0, (tgN b r).2)], rs.lv ++ [nsAll ol prs]⟩ := fun ev => by
  have := Step.start (ev := ev) (nm := rs.nm) (lv := lv') (l := ol) (u := (tgN b r).1) (u0 := u0) p0 (tgN b r).2 prs hplen (by rw [hatts]; exact halen) (by have := keys_len hkeys; lia) hpu hu0 (fun q c v hm hq0 => by
   rw [hprs] at hm
   rcases List.mem_append.mp hm with hm | hm
   ·obtain ⟨x, _, e⟩ := List.mem_map.mp hm
    cases e
   ·obtain ⟨x, hx, e⟩ := List.mem_map.mp hm
    unfold atPr at e
    by_cases h0 : x.1.1 = 0
    ·rw [if_pos h0] at e
     cases e
     exact absurd rfl hq0
    ·obtain ⟨p, hp, hpn, hl⟩ := hatv x hx h0
     rw [if_neg h0, hp] at e
     have : q = p := by
      injection e with e1 e2 e3
      exact e1.symm
     rw [this]
     exact ⟨_, hl⟩)
  rw [hatts, alE_srt hA, <- hlv] at this
  exact this
 have hto : t'.out = (flush t).out := by rw [hkp.out]; exact hnj.fo
 have htdata : t'.data = [] := by rw [hkp.data]; rfl
 have htN : t'.N = T.1.N := hkp.N
 have htps : t'.ps = t.ps := by rw [hkp.ps]; exact hnj.ps
 have htdone : t'.done = false := by rw [hkp.done]; exact hnj.done.trans h.done
 obtain ⟨ck, hck⟩ : ∃ ck, ck = [("<" : Str) ++ wn p0 (tgN b r).2] ++ (if atL l nnl (alK b r K) = [] then [] else [catS ((atL l nnl (alK b r K)).map atS)]) ++ [(">" : Str)] := ⟨_, rfl⟩
 have hso : (stEnd t' l nnl (tgN b r) (alK b r K) bp bN).out = (flush t).out ++ ck := by
  show t'.out ++ [("<" : Str) ++ wn ((l.lookup (tgN b r)).getD 0) (tgN b r).2] ++ (if atL l nnl (alK b r K) = [] then [] else [catS ((atL l nnl (alK b r K)).map atS)]) ++ [(">" : Str)] = _
  rw [hto, hp0', hck]
  simp
 have hckl : outL ck = (Tk.start p0 (tgN b r).2 prs).s := by rw [hck]; exact start_out _ prs _ _ _ hpv rfl
 have hckn : ck.length <= 3 := by
  rw [hck]; split <;> simp
 have htok : (Tk.start p0 (tgN b r).2 prs).s.length <= 5000 := by
  have hw := wn_len p0 (tgN b r).2
  have h1 : (prs.flatMap prS).length <= 704 * prs.length := flatMap_len prS 704 prs fun q hq => by
   unfold prS
   have hk := key_len q
   refine at_len (Nat.le_trans hk (by decide)) ?_
   rw [hprs] at hq
   rcases List.mem_append.mp hq with hm | hm
   ·obtain ⟨x, _, rfl⟩ := List.mem_map.mp hm
    show (uS x.1).length <= 100
    have := uS_len x.1; lia
   ·obtain ⟨x, hx, rfl⟩ := List.mem_map.mp hm
    show x.2.length <= 100
    have := hA.short x (hperm.mem_iff.mp hx); lia
  have h2 : (wn p0 (tgN b r).2).cps.toList.length = (wn p0 (tgN b r).2).length := (len_cps _).symm
  show (60 :: ((wn p0 (tgN b r).2).cps.toList ++ (prs.flatMap prS ++ [62]))).length <= _
  rw [List.length_cons, List.length_append, List.length_append, List.length_singleton, h2]
  have : 704 * prs.length <= 704 * 7 := Nat.mul_le_mul_left _ hplen
  lia
 obtain ⟨N', a, ll, add, e1, e2, e3, e4, e5⟩ := hnj.N
 refine ⟨ts ++ (flTk (catS t.data) ++ [.start p0 (tgN b r).2 prs]), ⟨rs.ev ++ pend (catS t.data) ++ [.st (nmS (tgN b r)) (alE (alK b r K))], rs.nm ++ [(p0, (tgN b r).2)], rs.lv ++ [nsAll ol prs]⟩, ?_⟩
 have hfll := flush_len t
 exact {
  run := h.run.app (run_two (hstep _) rfl)
  out := by
   rw [hso, outL_app, h.fout, h.out, hckl, List.flatMap_append, List.flatMap_append, List.append_assoc]
   simp
  duj := by
   show _ = _ ++ pend (catS t'.data)
   rw [htdata, pend_nil, List.append_nil]
   exact h.nxt _ rfl
  dne := by simp
  last := ⟨_, _, rfl, rfl⟩
  qi := {
   D0 := hq.D0
   g := hq.g
   nd := hq.nd
   xm := hq.xm
   n := fun hr x hx => hq.n hr x (by
    have hx' : x ∈ flat (t'.N ++ [(bN, [])]) := hx
    rw [flat_snoc] at hx'
    simpa using hx')
   pm := hq.pm }
  stk := by
   show Stk t'.rw t'.D _ _ _
   rw [hDt, hrw]
   exact .push (e := ⟨tgN b r, ta, T.2⟩) h.stk hlv2 hkeys2 hf0'
  nok := by
   obtain ⟨base, rest, f1, f2, f3, f4⟩ := h.nok.at_
   obtain ⟨rest', x, rfl⟩ : ∃ r x, rest = r ++ [x] := by
    rcases List.eq_nil_or_concat rest with e0 | ⟨r, x, e0⟩
    ·rw [e0] at f2; simp at f2
    ·exact ⟨r, x, by rw [e0]; simp⟩
   have f2' : rest'.length = path.length := by simpa using f2
   have hN' : N' = base ++ rest' /\ x = (a, ll) := by
    rw [e1, <- List.append_assoc] at f1
    have := List.append_inj' f1 rfl
    exact ⟨this.1, by simpa using this.2.symm⟩
   refine ⟨base, rest' ++ [(a, ll ++ add)] ++ [(bN, [])], ?_, by simp [f2'], fun hr => f3 (by rw [<- hrw]; exact hr), fun k f y hk hy u hu => ?_⟩
   ·show t'.N ++ [(bN, [])] = _
    rw [htN, e2, hN'.1]
    simp
   ·have hkl := (List.getElem?_eq_some_iff.mp hk).1
    rw [List.length_append, List.length_singleton] at hkl
    by_cases hkp : k < path.length
    ·rw [List.getElem?_append_left hkp] at hk
     rw [List.append_assoc, List.getElem?_append_left (by lia)] at hy
     exact f4 k f y hk (by rw [List.getElem?_append_left (by lia)]; exact hy) u hu
    ·have hke : k = path.length := by lia
     subst hke
     rw [List.getElem?_append_right (Nat.le_refl _), Nat.sub_self] at hk
     rw [List.append_assoc, List.getElem?_append_right (by lia), f2', Nat.sub_self] at hy
     simp at hk hy
     subst hk hy
     show u ∈ (ll ++ add).map Prod.fst
     rw [List.map_append, e3]
     exact memR _ hu
  seen := rfl
  done := htdone
  ps := by
   show (t'.ps ++ [bp]).length = _
   rw [htps, List.length_append, h.ps]; simp
  pne := by simp
  dl := by show t'.data.length <= _; rw [htdata]; exact Nat.zero_le _
  dz := by show (t'.data.map _).sum <= _; rw [htdata]; exact Nat.zero_le _
  ol := by
   have := h.ol
   rw [hso, List.length_append]; lia
  nl := by
   have := h.nl
   show (t'.N ++ [(bN, [])]).length <= _
   rw [htN, List.length_append, hNf.2.2.1, List.length_singleton]; lia
  nf := by
   have := h.nf
   have h2 := hNf.2.2.2
   show (flat (t'.N ++ [(bN, [])])).length <= _
   rw [flat_snoc, htN, List.nil_append]; lia
  pl := by have := h.pl; simp; lia
  sc := by
   have := h.sc
   have e0 : (scU (path ++ [⟨tgN b r, ta, T.2⟩])).length = (scU path).length + T.2.length := by unfold scU; rw [List.flatMap_append]; simp
   have e6 : T.2.length = add.length := by rw [<- e3, lnM]
   lia
  dul := by have := h.dul; simp; lia
  tz := by
   have h1 := h.tz
   have h2 := flTk_s (catS t.data)
   have h3 : (catS (stEnd t' l nnl (tgN b r) (alK b r K) bp bN).data).length = 0 := by
    show (catS t'.data).length = 0
    rw [htdata]; rfl
   rw [h3, hso, outL_app, h.fout, hckl, List.length_append, List.length_append]
   lia
  tl := by
   have h1 := h.tl
   have h2 := flTk_len (catS t.data)
   rw [List.length_append, List.length_append, List.length_singleton]; lia
  dok := ok_snoc h.dok ⟨⟨nm_ok _, fun x hx => by
   rw [alE_eq] at hx
   obtain ⟨y, hy, rfl⟩ := List.mem_map.mp hx
   exact ⟨nm_ok _, alK_ok b r y (hperm.mem_iff.mp hy)⟩⟩, trivial⟩ }
end
section
variable {c : Cx} {σ : Store} {L : Addr} {N : Store -> Prop} {R : PV -> Store -> Prop} {g1 g2 g3 g4 g5 g6 g7 g8 g9 g10 g11 g12 g13 g14 : Option PV} {script : PV} {fs : Int} {b : Bool} {oa ua pa qa da sa ta : Addr} {a : SA} {t : St} {due : List Ev} {path : List PE} {tb : Option (Addr × Obj)} {τ : Store} {m r : Int} {i : Nat} {ts : List Tk} {rs : RS}
inductive LSt (L : Addr) (script : PV) (fs : Int) (b : Bool) (oa ua pa : Addr) (a : SA) (g1 : Option PV) (t : St) (due : List Ev) (path : List PE) (tb : Option (Addr × Obj)) (σ σ' : Store) : Prop
 | mk (g2 g3 g4 g5 g6 g7 g8 g9 g10 g11 : Option PV) (e : σ' = stS L script fs b oa ua pa a.x g1 g2 g3 g4 g5 g6 g7 g8 g9 g10 g11 none none none (lwT ua pa a t due path tb σ)) : LSt L script fs b oa ua pa a g1 t due path tb σ σ'
theorem lb_start (B : Base c) (S : Tg c a) (hu : c.u < 6000) (hd : c.d + 6 < recursionLimit) (F : Fm (callEnv fd197 L 197) L NW) (h : SI b i t due path ts rs) (hi : i <= 130) (htb : tabOk lamQ tb)
  (hN : ∀ σ' t' due' path' tb' ts' rs', LI b (i + 1) t' due' path' ts' rs' -> tabOk lamQ tb' -> LSt L script fs b oa ua pa a g1 t' due' path' tb' σ σ' -> N σ') :
  Xs c (callEnv fd197 L 197) (bl197.drop 1) (stS L script fs b oa ua pa a.x g1 (some (.int 0)) (some (.int r)) g4 g5 g6 g7 g8 g9 g10 g11 none none none (lwT ua pa a t due path tb σ)) N R := by
 have h4 : 0 <= r / 12 % 4 /\ r / 12 % 4 < 4 := ⟨Int.emod_nonneg _ (by decide), Int.emod_lt_of_pos _ (by decide)⟩
 obtain ⟨K, hK⟩ : ∃ K, K = (r / 12 % 4).toNat := ⟨_, rfl⟩
 have hK3 : K <= 3 := by lia
 have hNJ := fun k (hk : k <= 3) => nsJ_ok (b := b) (r := r) (us := usK b r K) (sc := scU path) h.nok.ne k hk
 obtain ⟨ps', bp, hps⟩ : ∃ ps' bp, t.ps = ps' ++ [bp] := by
  rcases List.eq_nil_or_concat t.ps with e | ⟨ps', bp, e⟩
  ·have := h.ps; rw [e] at this; simp at this
  ·exact ⟨ps', bp, by rw [e]; simp⟩
 refine Xs.cons (X.iff (T.cmp (E.n F (E.int (Cmp.eq_int (Tr.bool ?_))))))
 rw [if_pos (by decide)]
 have go : Xs c (callEnv fd197 L 197) b0 (stS L script fs b oa ua pa a.x g1 (some (.int 0)) (some (.int r)) g4 g5 g6 g7 g8 g9 g10 g11 none none none (lwT ua pa a t due path tb σ)) N R := by
  refine ls_a B F fun qa da => ?_
  refine ls_b B (by lia) F fun g8 g9 g10 => ?_
  rw [<- hK]
  refine ls_c B F (by have := h.pl; lia) (by have := h.sc; lia) fun sa ta => ?_
  refine ls_d (sc := scU path) (τ := tbS tb ++ (σ ++ [(sa, .list ((scU path).map fun u => .str (uS u)))])) B S (by lia) F (memR _ (memR _ (.head _))) (fun k hk => ?_) fun g8 => ?_
  ·have := hNJ k (by lia)
   have hf := this.Nf h hi (by lia)
   exact ⟨this.ok2 h hi, hf.1, hf.2.1⟩
  ·obtain ⟨T, hT⟩ : ∃ T, T = nsJ b r (usK b r K) (scU path) t 3 := ⟨_, rfl⟩
   have hnj := hNJ 3 (Nat.le_refl _)
   rw [<- hT] at hnj ⊢
   have hf := hnj.Nf h hi (Nat.le_refl _)
   refine ls_e (ps' := ps') (bp := bp) B S hu hd F (hnj.ok2 h hi) (alK_Al b r hK3) htb (by rw [hnj.ps, hps]) (by rw [hnj.ps, h.ps]; have := h.pl; lia) (by have := hnj.ol; have := h.ol; lia) (by rw [hf.2.2.1]; have := h.nl; lia) (by rw [hnj.D, h.stk.len]; have := h.pl; lia) (by have := h.dul; lia) (fun bb ks hks j hj => h.hrun hi hT bb ks hks j hj) fun bb ks t' l nnl bN tb' ta a1 a2 a3 a4 => ?_
   obtain ⟨ts', rs', hLI⟩ := h.start hi hK3 hT (ta := ta) (bp := bp) (bN := bN) a1 a2 a3
   exact hN _ _ _ _ _ _ _ hLI a4 ⟨_, _, _, _, _, _, _, _, _, _, rfl⟩
 exact go.mono (fun σ' hh => Xs.nil hh) fun _ _ hh => hh
end
theorem mv_len (ns : List Int) : (mvL ns).length = 1 + (ns.length - 1) + ns.length + 1 := by
 unfold mvL
 simp <;> lia
theorem mv_get {ns : List Int} {k : Nat} {m r : Int} (h : (mvL ns)[k]? = some (m, r)) : (k = 0 -> m = 0) /\ (k + 1 = (mvL ns).length -> m = 6) /\ (k + 1 < (mvL ns).length -> 0 <= m /\ m <= 5) := by
 have hk := (List.getElem?_eq_some_iff.mp h).1
 have hl := mv_len ns
 refine ⟨fun h0 => ?_, fun hn => ?_, fun hn => ?_⟩
 ·subst h0
  have e : (mvL ns)[0]? = some (0, (ns.take 1).sum / 4) := rfl
  rw [e] at h
  cases h; rfl
 ·unfold mvL at h
  have e : k = ([((0 : Int), (ns.take 1).sum / 4)] ++ (ns.drop 1).map (fun x => (x % 6, x / 6)) ++ List.replicate ns.length ((1 : Int), (0 : Int))).length := by
   unfold mvL at hn
   rw [List.length_append] at hn
   exact Nat.succ.inj hn
  rw [e, List.getElem?_concat_length] at h
  cases h; rfl
 ·have hm : (m, r) ∈ (mvL ns).dropLast := by
   have h2 : (mvL ns).dropLast[k]? = some (m, r) := by
    rw [List.getElem?_dropLast, if_pos (Nat.lt_sub_of_add_lt hn)]; exact h
   exact List.mem_of_getElem? h2
  unfold mvL at hm
  rw [List.dropLast_concat] at hm
  rcases List.mem_append.mp hm with hm | hm
  ·rcases List.mem_append.mp hm with hm | hm
   ·have := List.mem_singleton.mp hm
    cases this
    exact ⟨by decide, by decide⟩
   ·obtain ⟨x, _, e⟩ := List.mem_map.mp hm
    cases e
    have h1 := Int.emod_nonneg x (show (6 : Int) ≠ 0 by decide)
    have h2 := Int.emod_lt_of_pos x (show (0 : Int) < 6 by decide)
    lia
  ·have := (List.mem_replicate.mp hm).2
   cases this
   exact ⟨by decide, by decide⟩
section
variable {c : Cx} {σ : Store} {L : Addr} {N : Store -> Prop} {R : PV -> Store -> Prop} {g1 g2 g3 g4 g5 g6 g7 g8 g9 g10 g11 g12 g13 g14 : Option PV} {script : PV} {fs : Int} {b : Bool} {oa ua pa qa da sa ta : Addr} {a : SA} {t : St} {due : List Ev} {path : List PE} {tb : Option (Addr × Obj)} {τ : Store} {m r : Int} {k n : Nat} {ts : List Tk} {rs : RS}
noncomputable def LvI (b : Bool) (n k : Nat) (t : St) (due : List Ev) (path : List PE) : Prop :=
 (∃ ts rs, k = 0 /\ SI b k t due path ts rs) \/ (∃ ts rs, 1 <= k /\ k < n /\ LI b k t due path ts rs) \/ (∃ ts rs, k = n /\ FI k t due ts rs)
theorem lb_all (B : Base c) (S : Tg c a) (hu : c.u < 6000) (hd : c.d + 6 < recursionLimit) (F : Fm (callEnv fd197 L 197) L NW) (hn : n <= 129) (hk : k < n) (h : LvI b n k t due path) (htb : tabOk lamQ tb)
  (h0 : k = 0 -> m = 0) (h6 : k + 1 = n -> m = 6) (h5 : k + 1 < n -> 0 <= m /\ m <= 5)
  (hN : ∀ σ' t' due' path' tb', LvI b n (k + 1) t' due' path' -> tabOk lamQ tb' -> LSt L script fs b oa ua pa a g1 t' due' path' tb' σ σ' -> N σ') :
  Xs c (callEnv fd197 L 197) (bl197.drop 1) (stS L script fs b oa ua pa a.x g1 (some (.int m)) (some (.int r)) (some (.str (pcS m r))) g5 g6 g7 g8 g9 g10 g11 none none none (lwT ua pa a t due path tb σ)) N R := by
 by_cases hm0 : m = 0
 ·subst hm0
  have hk2 : k + 1 < n := by
   rcases Nat.lt_or_ge (k + 1) n with h | h
   ·exact h
   ·have := h6 (by lia); cases this
  have hsi : ∃ ts rs, SI b k t due path ts rs := by
   rcases h with ⟨ts, rs, _, h⟩ | ⟨ts, rs, _, _, h⟩ | ⟨ts, rs, e, _⟩
   ·exact ⟨ts, rs, h⟩
   ·exact ⟨ts, rs, h.si⟩
   ·lia
  obtain ⟨ts, rs, hsi⟩ := hsi
  exact lb_start B S hu hd F hsi (by lia) htb fun σ' t' due' path' tb' ts' rs' hLI htb' hst => hN _ _ _ _ _ (.inr (.inl ⟨ts', rs', by lia, hk2, hLI⟩)) htb' hst
 ·have hk1 : 1 <= k := by
   rcases Nat.eq_zero_or_pos k with e | e
   ·exact absurd (h0 e) hm0
   ·exact e
  obtain ⟨ts, rs, hLI⟩ : ∃ ts rs, LI b k t due path ts rs := by
   rcases h with ⟨ts, rs, e, _⟩ | ⟨ts, rs, _, _, h⟩ | ⟨ts, rs, e, _⟩
   ·lia
   ·exact ⟨ts, rs, h⟩
   ·lia
  have hx := pcS_len m r
  have hpl := hLI.pl
  have hdl := hLI.dul
  obtain ⟨path', e, rfl⟩ : ∃ p e, path = p ++ [e] := by
   rcases List.eq_nil_or_concat path with e0 | ⟨p, e, e0⟩
   ·exact absurd e0 hLI.pne
   ·exact ⟨p, e, by rw [e0]; simp⟩
  have hps : t.ps ≠ [] := fun e0 => by have := hLI.ps; rw [e0] at this; simp at this
  have hpl' : path'.length <= 1000 := by rw [List.length_append] at hpl; lia
  have hpsl : t.ps.length <= 1000 := by rw [hLI.ps]; lia
  by_cases hm6 : m = 6
  ·obtain ⟨p, hq, ts', rs', hFI, hlive⟩ := hLI.end
   refine lb_end B S (by lia) F (hLI.ok2 (by lia)) (hLI.ok (by lia)) hLI.nok.ne hps hpsl (by lia) hpl' hq (.inl hm6) ?_
   refine hN _ _ _ _ _ (.inr (.inr ⟨ts', rs', ?_, hFI⟩)) htb ⟨_, _, _, _, _, _, _, _, _, _, rfl⟩
   rcases Nat.lt_or_ge (k + 1) n with h | h
   ·have := h5 h; lia
   ·lia
  ·have hk2 : k + 1 < n := by
    rcases Nat.lt_or_ge (k + 1) n with h | h
    ·exact h
    ·exact absurd (h6 (by lia)) hm6
   by_cases hm1 : m = 1 /\ 0 < path'.length
   ·obtain ⟨p, hq, ts', rs', hFI, hlive⟩ := hLI.end
    refine lb_end B S (by lia) F (hLI.ok2 (by lia)) (hLI.ok (by lia)) hLI.nok.ne hps hpsl (by lia) hpl' hq (.inr hm1) ?_
    exact hN _ _ _ _ _ (.inr (.inl ⟨ts', rs', by lia, hk2, hlive (List.length_pos_iff.mp hm1.2)⟩)) htb ⟨_, _, _, _, _, _, _, _, _, _, rfl⟩
   ·have hm1' : m = 1 -> (path' ++ [e]).length <= 1 := fun h1 => by
     have h3 : ¬ 0 < path'.length := fun h => hm1 ⟨h1, h⟩
     rw [List.length_append, List.length_singleton]; lia
    by_cases hm4 : m = 4
    ·subst hm4
     obtain ⟨ts', rs', hLI'⟩ := hLI.comment hx (pcS_ok _ _)
     refine lb_comment B S (by lia) F (hLI.ok2 (by lia)) hLI.seen hLI.done (by lia) (by lia) (by lia) ?_
     exact hN _ _ _ _ _ (.inr (.inl ⟨ts', rs', by lia, hk2, hLI'⟩)) htb ⟨_, _, _, _, _, _, _, _, _, _, rfl⟩
    ·by_cases hm5 : m = 5
     ·subst hm5
      obtain ⟨ts', rs', hLI'⟩ := hLI.pi hx (pcS_ok _ _)
      refine lb_pi B S (by lia) F (hLI.ok2 (by lia)) hLI.seen hLI.done (by lia) (by lia) (by lia) ?_
      exact hN _ _ _ _ _ (.inr (.inl ⟨ts', rs', by lia, hk2, hLI'⟩)) htb ⟨_, _, _, _, _, _, _, _, _, _, rfl⟩
     ·refine lb_data B S (by lia) F (hLI.ok2 (by lia)) (by lia) hm0 hm6 hm1' (by lia) hm4 hm5 ?_
      exact hN _ _ _ _ _ (.inr (.inl ⟨ts, rs, by lia, hk2, hLI.data hx (pcS_ok _ _)⟩)) htb ⟨_, _, _, _, _, _, _, _, _, _, rfl⟩
theorem law_loop (B : Base c) (S : Tg c a) (hu : c.u < 6000) (hd : c.d + 6 < recursionLimit) (F : Fm (callEnv fd197 L 197) L NW) {ns : List Int} (hn : ns.length <= 63) {rw : Bool} {l1 l2 l3 : Addr}
  (hg : g1 = some (.lst ((mvL ns).map mvP)))
  (h : ∀ σ' t' due' path' tb' ts' rs', FI (mvL ns).length t' due' ts' rs' -> LSt L script fs b oa ua pa a g1 t' due' path' tb' σ σ' -> Xs c (callEnv fd197 L 197) (bd197.drop 10) σ' N R) :
  Xs c (callEnv fd197 L 197) (bd197.drop 9) (stS L script fs b oa ua pa a.x g1 none none none none none none none none none none none none none (lwT ua pa a (t0 rw l1 l2 l3) [] [] none σ)) N R := by
 subst hg
 have hl := mv_len ns
 refine Xs.cons (X.for (E.n F ?_))
 refine ⟨(mvL ns).map mvP, _, fun k σ' => ∃ t due path tb, LvI b (mvL ns).length k t due path /\ tabOk lamQ tb /\ LSt L script fs b oa ua pa a (some (.lst ((mvL ns).map mvP))) t due path tb σ σ', Itb.lst, ⟨_, _, _, none, .inl ⟨[], rs0, rfl, SI.init rw b l1 l2 l3⟩, trivial, ⟨_, _, _, _, _, _, _, _, _, _, rfl⟩⟩, fun _ _ _ => trivial, ?_, ?_⟩
 ·rintro Fr β hb k q _ hq ⟨t, due, path, tb, hI, htb, g2, g3, g4, g5, g6, g7, g8, g9, g10, g11, rfl⟩
  rw [List.getElem?_map] at hq
  obtain ⟨⟨m, r⟩, hmr, rfl⟩ := Option.map_eq_some_iff.mp hq
  have hk := (List.getElem?_eq_some_iff.mp hmr).1
  obtain ⟨h0, h6, h5⟩ := mv_get hmr
  refine Asg.tuple (Asg.name F.lo F.loc (by trivial) (Asg.name F.lo F.loc (by trivial) ?_)) rfl
  refine lb_piece (B.ext hb) (show c.d < recursionLimit by lia) F ?_
  exact lb_all (B.ext hb) (S.ext hb) hu hd F (by lia) hk hI htb h0 h6 h5 fun σ' t' due' path' tb' a1 a2 a3 => ⟨t', due', path', tb', a1, a2, a3⟩
 ·rintro σ' ⟨t, due, path, tb, hI, htb, hst⟩
  rw [lnM] at hI
  rcases hI with ⟨ts, rs, e, _⟩ | ⟨ts, rs, _, e, _⟩ | ⟨ts, rs, _, hFI⟩
  ·lia
  ·lia
  ·exact h _ _ _ _ _ _ _ hFI hst
end
mutual
inductive PD : PV -> PyData -> Prop
 | str (x : Str) : PD (.str x) (.str x)
 | tup {ps : List PV} {ds : List PyData} : PDs ps ds -> PD (.tup ps) (.tuple ds)
 | lst {ps : List PV} {ds : List PyData} : PDs ps ds -> PD (.lst ps) (.list ds)
inductive PDs : List PV -> List PyData -> Prop
 | nil : PDs [] []
 | cons {p : PV} {d : PyData} {ps : List PV} {ds : List PyData} : PD p d -> PDs ps ds -> PDs (p :: ps) (d :: ds)
end
theorem PDs.reads {F : List Addr} {σ : Store} {s : Shared} {ps : List PV} {ds : List PyData} {vs : List Value} (h : PDs ps ds) : VRs (vw F σ s) ps vs -> ∃ as, ReadsAll s.heap vs ds as :=
 h.rec (motive_1 := fun p d _ => ∀ v, VR (vw F σ s) p v -> ∃ as, Reads s.heap v d as) (motive_2 := fun ps ds _ => ∀ vs, VRs (vw F σ s) ps vs -> ∃ as, ReadsAll s.heap vs ds as)
  (fun x v hv => by obtain ⟨t, rfl⟩ := hv.inv_str; exact ⟨_, .str x t⟩)
  (fun _ ih v hv => by obtain ⟨a, vs, n, rfl, e, rv⟩ := hv.inv_tup; exact (ih _ rv).elim fun as ha => ⟨_, .tuple (vw_some.mp e).2.2 rfl rfl ha⟩)
  (fun _ ih v hv => by obtain ⟨a, vs, n, rfl, e, rv⟩ := hv.inv_lst; exact (ih _ rv).elim fun as ha => ⟨_, .list (vw_some.mp e).2.2 rfl rfl ha⟩)
  (fun vs hv => by rw [hv.inv_nil]; exact ⟨_, .nil⟩)
  (fun _ _ h t vs hv => by obtain ⟨v, vs, rfl, rv, rvs⟩ := hv.inv_cons; exact (h _ rv).elim fun as ha => (t _ rvs).elim fun bs hb => ⟨_, .cons ha hb⟩) vs
theorem PD.reads {F : List Addr} {σ : Store} {s : Shared} {p : PV} {d : PyData} {v : Value} (h : PD p d) (hv : VR (vw F σ s) p v) : ∃ as, Reads s.heap v d as :=
 (PDs.cons h .nil).reads (.cons hv .nil) |>.elim fun _ h => by cases h; exact ⟨_, by assumption⟩
noncomputable def evD : Ev -> PyData
 | .tx k s => .tuple [.str k, .str s]
 | .st t as => .tuple [.str "start", .tuple [.str t, .list (as.map fun x => .tuple [.str x.1, .str x.2])]]
theorem pairs_PD (as : List (Str × Str)) : PDs (as.map pp) (as.map fun x => PyData.tuple [.str x.1, .str x.2]) := by
 induction as with
 | nil => exact .nil
 | cons x as ih => exact .cons (.tup (.cons (.str _) (.cons (.str _) .nil))) ih
theorem ev_PD (e : Ev) : PD (evP e) (evD e) :=
 e.casesOn (fun _ _ => .tup (.cons (.str _) (.cons (.str _) .nil))) fun _ as => .tup (.cons (.str _) (.cons (.tup (.cons (.str _) (.cons (.lst (pairs_PD as)) .nil))) .nil))
theorem evs_PD (es : List Ev) : PDs (es.map evP) (es.map evD) := by
 induction es with
 | nil => exact .nil
 | cons e es ih => exact .cons (ev_PD e) ih
theorem eqvAll_map {α : Type} {f : α -> PyData} (h : ∀ x, PyData.eqv (f x) (f x) = true) (l : List α) : PyData.eqvAll (l.map f) (l.map f) = true := by
 induction l with
 | nil => simp [PyData.eqvAll]
 | cons x l ih => simp only [List.map_cons, PyData.eqvAll, h, ih, Bool.and_self]
theorem ev_eqv (e : Ev) : PyData.eqv (evD e) (evD e) = true := by
 cases e with
 | tx k s => simp [evD, PyData.eqv, PyData.eqvAll]
 | st t as => simp [evD, PyData.eqv, PyData.eqvAll, eqvAll_map]
theorem pairs_lay (as : List (Str × Str)) (h : ∀ x ∈ as, PyData.strOk x.1 = true /\ PyData.strOk x.2 = true) : PyData.canLayAll0 (as.map fun x => PyData.tuple [.str x.1, .str x.2]) = true /\ PyData.depthAll (as.map fun x => PyData.tuple [.str x.1, .str x.2]) <= 1 := by
 induction as with
 | nil => exact ⟨rfl, Nat.zero_le _⟩
 | cons x as ih =>
  have ih := ih fun y hy => h y (.tail _ hy)
  have hx := h x (.head _)
  refine ⟨?_, ?_⟩
  ·simp [PyData.canLayAll0, PyData.canLay0, hx.1, hx.2]
   simpa using ih.1
  ·exact Nat.max_le.mpr ⟨Nat.le_refl _, ih.2⟩
theorem ev_lay {e : Ev} (h : evOk e) : (evD e).canLay0 = true /\ (evD e).depth <= 4 := by
 cases e with
 | tx k s =>
  refine ⟨?_, ?_⟩
  ·simp [evD, PyData.canLay0, PyData.canLayAll0, h.1, h.2]
  ·simp [evD, PyData.depth, PyData.depthAll]
 | st t as =>
  obtain ⟨h1, h2⟩ := pairs_lay as h.2
  have hs : PyData.strOk "start" = true := by decide +kernel
  refine ⟨?_, ?_⟩
  ·simp only [evD, PyData.canLay0, PyData.canLayAll0, h.1, h1, hs, Bool.and_true, Bool.and_self]
  ·simp only [evD, PyData.depth, PyData.depthAll]
   lia
theorem evs_lay {es : List Ev} (h : ∀ e ∈ es, evOk e) : PyData.canLayAll0 (es.map evD) = true /\ PyData.depthAll (es.map evD) <= 4 := by
 induction es with
 | nil => exact ⟨rfl, Nat.zero_le _⟩
 | cons e es ih =>
  have ih := ih fun y hy => h y (.tail _ hy)
  have he := ev_lay (h e (.head _))
  exact ⟨by rw [List.map_cons, PyData.canLayAll0, he.1, ih.1]; rfl, Nat.max_le.mpr ⟨he.2, ih.2⟩⟩
section
variable {c : Cx} {σ : Store} {Q : PV -> Store -> Prop}
theorem Cmp.eq_evs (hu : c.u < 8000) {p q : PV} {es : List Ev} (h1 : LV c σ p (es.map evP)) (h2 : LV c σ q (es.map evP)) (hok : ∀ e ∈ es, evOk e) (h : Q (.bool true) σ) : Cmp c .Eq p q σ Q := fun V va vb ra rb A s hA R hV => by
 obtain ⟨a, vs, n, rfl, ea, rva⟩ := h1 s va R (ra.mono hV)
 obtain ⟨b, ws, m, rfl, eb, rvb⟩ := h2 s vb R (rb.mono hV)
 obtain ⟨as, ha⟩ := (evs_PD es).reads rva
 obtain ⟨bs, hb⟩ := (evs_PD es).reads rvb
 have hl := evs_lay hok
 have hs : SeqAt.shaped (.list (es.map evD)) = true := by
  unfold SeqAt.shaped
  rw [PyData.canLay0, hl.1, Bool.true_and, PyData.depth]
  exact decide_eq_true (by lia)
 refine eq_dataH (Reads.list (xs := es.map evD) ea rfl rfl (by simpa using ha)) (Reads.list (xs := es.map evD) eb rfl rfl (by simpa using hb)) hs hs (by have := hA.units; show _ < 9900; lia) ?_
 have e : PyData.eqv (.list (es.map evD)) (.list (es.map evD)) = true := by simpa [PyData.eqv] using eqvAll_map ev_eqv _
 rw [e]
 exact ret_here R (.bool _) h
theorem Cmp.ne_ev (hu : c.u < 8000) {e : Ev} (hok : evOk e) (h : Q (.bool !(PyData.eqv (evD e) (evD (.tx "text" "")))) σ) : Cmp c .NotEq (evP e) (evP (.tx "text" "")) σ Q := fun V va vb ra rb A s hA R hV => by
 obtain ⟨as, ha⟩ := (ev_PD e).reads (ra.mono hV)
 obtain ⟨bs, hb⟩ := (ev_PD (.tx "text" "")).reads (rb.mono hV)
 have sh : ∀ {e : Ev}, evOk e -> SeqAt.shaped (evD e) = true := fun h => by
  have := ev_lay h
  unfold SeqAt.shaped
  rw [this.1, Bool.true_and]
  exact decide_eq_true (by lia)
 exact ne_dataH ha hb (sh hok) (sh ⟨by decide +kernel, by decide +kernel⟩) (by have := hA.units; show _ < 9900; lia) (ret_here R (.bool _) h)
end
section
variable {c : Cx} {env : Env} {σ σ' : Store} {Q : PV -> Store -> Prop} {N : Store -> Prop}
theorem SetI.last {a : Addr} {l : List PV} {p q : PV} (U : Up a (.list (l ++ [p])) (.list (l ++ [q])) σ σ') (hz : l.length < 2 ^ 62) (h : N σ') : SetI c (.raw (.ref a)) (.int (-1)) q σ N := fun V vo vi vp ro ri rp A s hA R hV => by
 have := ro.inv_raw
 subst this
 obtain ⟨t, rfl⟩ := ri.inv_int
 obtain ⟨o, e, vs, n, rfl, rv⟩ := R.cells _ U.mem
 obtain ⟨vs1, vs2, rfl, r1, r2⟩ := rv.split
 obtain ⟨v, _, rfl, rv2, r3⟩ := r2.inv_cons
 have e0 := r3.inv_nil
 subst e0
 have hl : vs1.length = l.length := r1.length
 refine ki_setBack (items := (vs1 ++ [v]).toArray) (k := -1) e (by decide) (by simp; lia) (by decide) ?_
 have hi : ((-1 : Int) + ((vs1 ++ [v]).toArray.size : Int)).toNat = vs1.length := by simp; lia
 have hset : (vs1 ++ [v]).toArray.setIfInBounds vs1.length vp = (vs1 ++ [vp]).toArray := by
  apply Array.toList_inj.mp
  simp
 have hg : (s.heap.update a (Obj.mapSeq (·.setIfInBounds ((-1 : Int) + ((vs1 ++ [v]).toArray.size : Int)).toNat vp))).get? a = some (seqObj "list" (vs1 ++ [vp]).toArray n) := by
  rw [hi]
  have := Heap.get?_update_self (Obj.mapSeq (·.setIfInBounds vs1.length vp)) e rfl
  rw [this]
  have hm : Obj.mapSeq (·.setIfInBounds vs1.length vp) (seqObj "list" (vs1 ++ [v]).toArray n) = seqObj "list" (vs1 ++ [vp]).toArray n := by
   show seqObj "list" ((vs1 ++ [v]).toArray.setIfInBounds vs1.length vp) (if ((vs1 ++ [v]).toArray.setIfInBounds vs1.length vp).size == (vs1 ++ [v]).toArray.size then n else n + 1) = _
   rw [hset]
   simp
  rw [hm]
 have out := R.upd U (Heap.SameBut.update ..) hg ⟨vs1 ++ [vp], n, rfl, (r1.append (.cons (rp.mono hV) .nil))⟩ s.toks (Nat.le_refl _)
 exact ⟨_, out, h⟩
theorem E.slC {value : PySem.Expr} {lower upper : Option PySem.Expr} {p pos : Pos}
  (h : E c env value σ (fun o σ1 => Pt c env lower σ1 (fun lo σ₂ => Pt c env upper σ₂ (fun hi σ3 => ∃ l m, LV c σ3 o l /\ l.length <= sizeLine /\ (∀ V vs, VRs V l vs -> ∃ ws, slicePick vs.toArray lo hi Option.none = List.toArray ws /\ VRs V m ws) /\ ∀ a, Q (.raw (.ref a)) (σ3 ++ [(a, .list m)])))))
  (ht : autoParam (∀ o r, letTemporaryGo value o r = pure ()) aIir) : E c env (.Subscript value (.Slice lower upper Option.none p) pos) σ Q := fun V A s hA Rp hV =>
 wpAny_Subscript_list_slice (W.onr (h V) hA Rp hV (fun ov s1 σ1 o1 o ro q1 => W.on (q1 _) hA o1.rep (.refl _) (fun lv s2 σ₂ o2 ⟨l, il, q2⟩ => W.on (q2 _) hA o2.rep (.refl _) (fun uv s3 σ3 o3 hq2 => by
  obtain ⟨u, iu, L, m, hL, hz, hp, q⟩ := hq2
  obtain ⟨a, vs, n, rfl, e, rv⟩ := hL s3 ov o3.rep ((ro.mono o2.view).mono o3.view)
  obtain ⟨ws, ew, rw'⟩ := hp _ vs rv
  refine ⟨a, vs.toArray, l, u, rfl, seqObj_isList e, by rw [List.size_toArray, rv.length]; exact hz, il, iu, ?_⟩
  obtain ⟨o4, _⟩ := o3.rep.push_frz { cls := .type "slice", data := .fields #[lv, uv, .none] }
  rw [ew]
  have o5 := (o4.rep.push_cell { cls := .type "list", data := .seq ws.toArray } (.list m) ⟨ws, 0, rfl, rw'.mono o4.view⟩)
  have e5 : (s3.heap.push { cls := .type "slice", data := .fields #[lv, uv, .none] }).objs.size = s3.heap.objs.size + 1 := Heap.size_push ..
  rw [e5] at o5
  have o6 := o5.perm_r (σ₂ := σ3 ++ [(s3.heap.objs.size + 1, .list m)]) (by
   have := List.perm_append_comm (l₁ := [(s3.heap.objs.size + 1, Cell.list m)]) (l₂ := σ3)
   exact this.symm)
  exact ⟨_, (((o1.trans o2).trans o3).trans o4).trans o6, _, .raw _, q _⟩)))) ht
end
noncomputable def evK : Ev -> Str
 | .tx k _ => k
 | .st _ _ => "start"
noncomputable def evW : Ev -> PV
 | .tx _ s => .str s
 | .st t as => .tup [.str t, .lst (as.map pp)]
theorem evP_kw (e : Ev) : evP e = .tup [.str (evK e), evW e] := by cases e <;> rfl
theorem isText_K (e : Ev) : e.isText = (evK e == ("text" : Str)) := by
 cases e with
 | tx k s => rfl
 | st t as => show false = (("start" : Str) == ("text" : Str)); decide
noncomputable def evSmN (n : Nat) : Ev -> Prop
 | .tx _ s => s.length <= n
 | .st _ _ => True
theorem jstep_ne {acc : List Ev} (h : acc ≠ []) (e : Ev) : jstep acc e ≠ [] := by
 rcases jstep_cases acc e with e1 | e1 | ⟨k0, s0, k, s, hl, rfl, e1⟩ <;> rw [e1]
 ·exact h
 ·exact fun q => nomatch (List.append_eq_nil_iff.mp q).2
 ·exact fun q => nomatch (List.append_eq_nil_iff.mp q).2
theorem eqv_text (e : Ev) : PyData.eqv (evD e) (evD (.tx "text" "")) = match e with
  | .tx k s => (k == ("text" : Str)) && (s == ("" : Str))
  | .st _ _ => false := by
 cases e with
 | tx k s => simp [evD, PyData.eqv, PyData.eqvAll]
 | st t as => simp [evD, PyData.eqv, PyData.eqvAll]
section
variable {c : Cx} {σ : Store} {L : Addr} {N : Store -> Prop} {R : PV -> Store -> Prop} {g1 g2 g3 g4 g5 g6 g7 g8 g9 g10 g11 g12 g13 g14 : Option PV} {script : PV} {fs : Int} {b : Bool} {oa ua pa ja : Addr} {a : SA} {t : St} {due : List Ev} {path : List PE} {tb : Option (Addr × Obj)} {τ : Store} {acc ds : List Ev} {e0 e : Ev} {k : Nat}
noncomputable def fo102 : List Stmt := getFo (l := bd197.drop 11) rfl
noncomputable def el102 : List Stmt := getEl (l := fo102) rfl
theorem jn_turn (B : Base c) (hu : c.u < 8000) (F : Fm (callEnv fd197 L 197) L NW) {Z : Nat} (hZ : Z <= 1000000) (hal : acc.length <= 1000) (h0 : evSmN Z e0) (he : evDu e)
  (h : N (stS L script fs b oa ua pa a.x g1 g2 g3 g4 g5 g6 g7 g8 g9 g10 g11 (some (.raw (.ref ja))) (some (.str (evK e))) (some (evW e)) (τ ++ [(ja, .list ((jstep (acc ++ [e0]) e).map evP))]))) :
  Xs c (callEnv fd197 L 197) fo102 (stS L script fs b oa ua pa a.x g1 g2 g3 g4 g5 g6 g7 g8 g9 g10 g11 (some (.raw (.ref ja))) (some (.str (evK e))) (some (evW e)) (τ ++ [(ja, .list ((acc ++ [e0]).map evP))])) N R := by
 have hmap : (acc ++ [e0]).map evP = acc.map evP ++ [.tup [.str (evK e0), evW e0]] := by rw [List.map_append, List.map_singleton, evP_kw]
 have hU : ∀ q, Up ja (.list ((acc ++ [e0]).map evP)) (.list (acc.map evP ++ [q])) (τ ++ [(ja, .list ((acc ++ [e0]).map evP))]) (τ ++ [(ja, .list (acc.map evP ++ [q]))]) := fun q => Up.last
 have hm : (ja, Cell.list (acc.map evP ++ [.tup [.str (evK e0), evW e0]])) ∈ τ ++ [(ja, Cell.list ((acc ++ [e0]).map evP))] := by
  rw [hmap]; exact memR _ (.head _)
 have other : jstep (acc ++ [e0]) e = acc ++ [e0] ++ [e] -> PyData.eqv (evD e) (evD (.tx "text" "")) = false -> ∀ N' : Store -> Prop, (∀ σ', N σ' -> N' σ') ->
   Xs c (callEnv fd197 L 197) el102 (stS L script fs b oa ua pa a.x g1 g2 g3 g4 g5 g6 g7 g8 g9 g10 g11 (some (.raw (.ref ja))) (some (.str (evK e))) (some (evW e)) (τ ++ [(ja, .list ((acc ++ [e0]).map evP))])) N' R := fun hj hq N' hN' => by
  refine Xs.cons (X.iff (T.cmp (E.tuple (Es.cons (E.n F (Es.cons (E.n F (Es.nil ⟨le_sz (by show 2 <= 16777216; decide), ?_⟩)) rfl)) rfl))))
  refine E.tuple (Es.strC (Es.strC (Es.nil ⟨le_sz (by show 2 <= 16777216; decide), ?_⟩)))
  rw [<- evP_kw]
  refine Cmp.ne_ev hu he.1 (Tr.bool ?_)
  rw [hq, if_pos (by decide)]
  refine Xs.cons (X.expr (E.meth (E.n F (Gm.append (l := (acc ++ [e0]).map evP) (.tail _ (memR _ (.head _))) (Es.cons (E.tuple (Es.cons (E.n F (Es.cons (E.n F (Es.nil ⟨le_sz (by show 2 <= 16777216; decide), ?_⟩)) rfl)) rfl)) rfl))) rfl))
  refine Es.nil ⟨.builtin, Ca.append (.tail Up.last) (by rw [lnM, List.length_append]; exact le_sz (by simp; lia)) (Xs.nil (Xs.nil (hN' _ ?_)))⟩
  rw [hj, List.map_append, List.map_singleton, evP_kw] at h
  exact h
 refine Xs.cons (X.iff (T.and (and_cons (T.cmp (E.n F (E.str (Cmp.eq_str (Tr.bool ?_))))))))
 rw [<- isText_K]
 by_cases ht : e.isText = true
 ·rw [if_pos ht]
  obtain ⟨k, s, rfl⟩ : ∃ k s, e = .tx k s := by
   cases e with
   | tx k s => exact ⟨k, s, rfl⟩
   | st t as => cases ht
  have hk : k = "text" := eq_of_beq ht
  subst hk
  refine and_cons (T.cmp (E.sub (E.sub (E.n F (E.neg (It.last (.tail _ hm) (E.int (It.tup (l := [.str (evK e0), evW e0]) (j := 0) (by decide) (by decide) rfl rfl (E.str (Cmp.eq_str (Tr.bool ?_)))))))))))
  rw [<- isText_K]
  by_cases ht0 : e0.isText = true
  ·rw [if_pos ht0]
   obtain ⟨k0, s0, rfl⟩ : ∃ k s, e0 = .tx k s := by
    cases e0 with
    | tx k s => exact ⟨k, s, rfl⟩
    | st t as => cases ht0
   have hk0 : k0 = "text" := eq_of_beq ht0
   subst hk0
   refine and_nil ?_
   rw [if_pos rfl]
   have hs0 : s0.length <= Z := h0
   have hs : s.length <= 100 := he.2
   refine Xs.cons (X.setitem (E.tuple (Es.strC (Es.cons (E.binop (E.sub (E.sub (E.n F (E.neg (It.last (.tail _ hm) (E.int (It.tup (l := [.str (evK (.tx "text" s0)), evW (.tx "text" s0)]) (j := 1) (p := .str s0) (by decide) (by decide) rfl rfl ?_)))))))) rfl))))
   refine E.nm F (p := evW (.tx "text" s)) (by trivial) ?_
   show Bin c .Add (.str s0) (.str s) _ _
   refine Bin.add_str (by rw [sizeLine_eq]; lia) (Es.nil ⟨le_sz (by show 2 <= 16777216; decide), ?_⟩)
   have U2 : Up ja (.list (acc.map evP ++ [.tup [.str "text", .str s0]])) (.list (acc.map evP ++ [.tup [.str "text", .str (s0 ++ s)]])) (τ ++ [(ja, Cell.list ((acc ++ [Ev.tx "text" s0]).map evP))]) (τ ++ [(ja, .list (acc.map evP ++ [.tup [.str "text", .str (s0 ++ s)]]))]) := by
    have := hU (.tup [.str "text", .str (s0 ++ s)])
    rw [hmap] at this ⊢
    exact this
   refine E.n F (E.neg (SetI.last (l := acc.map evP) (p := .tup [.str "text", .str s0]) (q := .tup [.str "text", .str (s0 ++ s)]) (.tail U2) (by rw [lnM]; lia) ?_))
   refine Xs.nil (Xs.nil ?_)
   have hj : jstep (acc ++ [.tx "text" s0]) (.tx "text" s) = acc ++ [.tx "text" (s0 ++ s)] := by
    unfold jstep
    rw [if_pos ht, List.getLast?_append, List.getLast?_singleton, Option.some_or]
    dsimp only
    rw [if_pos (by rfl), List.dropLast_concat]
   rw [hj, List.map_append] at h
   exact h
  ·rw [if_neg ht0, if_neg (by decide)]
   have hj : jstep (acc ++ [e0]) (.tx "text" s) = if s.length = 0 then acc ++ [e0] else acc ++ [e0] ++ [.tx "text" s] := by
    unfold jstep
    rw [if_pos ht, List.getLast?_append, List.getLast?_singleton, Option.some_or]
    cases e0 with
    | st t as => rfl
    | tx k0 s0 =>
     dsimp only
     rw [if_neg (show ¬ (k0 == ("text" : Str)) = true from ht0)]
   by_cases hs : s.length = 0
   ·rw [if_pos hs] at hj
    have hse : s = ("" : Str) := by rw [str_nil hs]; rfl
    refine Xs.cons (X.iff (T.cmp (E.tuple (Es.cons (E.n F (Es.cons (E.n F (Es.nil ⟨le_sz (by show 2 <= 16777216; decide), ?_⟩)) rfl)) rfl))))
    refine E.tuple (Es.strC (Es.strC (Es.nil ⟨le_sz (by show 2 <= 16777216; decide), ?_⟩)))
    refine Cmp.ne_ev (e := .tx "text" s) hu he.1 (Tr.bool ?_)
    rw [eqv_text, hse, if_neg (by decide)]
    refine Xs.nil (Xs.nil (Xs.nil ?_))
    rw [hj] at h
    rw [hse] at h
    exact h
   ·rw [if_neg hs] at hj
    refine other hj ?_ _ fun σ' hh => Xs.nil hh
    rw [eqv_text]
    have : (s == ("" : Str)) = false := by
     have : s ≠ ("" : Str) := fun e => hs (by rw [e]; rfl)
     simpa using this
    dsimp only
    rw [this, Bool.and_false]
 ·rw [if_neg ht, if_neg (by decide)]
  refine other ?_ ?_ _ fun σ' hh => Xs.nil hh
  ·unfold jstep
   rw [if_neg ht]
  ·rw [eqv_text]
   cases e with
   | st t as => rfl
   | tx k s =>
    have : (k == ("text" : Str)) = false := by simpa [Ev.isText] using ht
    dsimp only
    rw [this, Bool.false_and]
end
theorem evSmN.mono {n m : Nat} (h : n <= m) {e : Ev} (hs : evSmN n e) : evSmN m e := by
 cases e with
 | tx => exact Nat.le_trans hs h
 | st => trivial
theorem jstep_sm {acc : List Ev} {e : Ev} {n : Nat} (h : ∀ x ∈ acc, evSmN n x) (he : evDu e) : ∀ x ∈ jstep acc e, evSmN (n + 100) x := by
 have hacc : ∀ x ∈ acc, evSmN (n + 100) x := fun x hx => (h x hx).mono (Nat.le_add_right _ _)
 rcases jstep_cases acc e with e1 | e1 | ⟨k0, s0, k, s, hl, rfl, e1⟩ <;> rw [e1]
 ·exact hacc
 ·refine List.forall_mem_append.mpr ⟨hacc, List.forall_mem_singleton.mpr ?_⟩
  cases e with
  | tx k s => exact Nat.le_trans he.2 (Nat.le_add_left _ _)
  | st t as => trivial
 ·refine List.forall_mem_append.mpr ⟨fun x hx => hacc x (List.dropLast_subset _ hx), List.forall_mem_singleton.mpr ?_⟩
  show (s0 ++ s).length <= n + 100
  rw [str_len_append]
  exact Nat.add_le_add (h _ (List.mem_of_getLast? hl)) he.2
theorem jstep_len (acc : List Ev) (e : Ev) : (jstep acc e).length <= acc.length + 1 := by
 rcases jstep_cases acc e with e1 | e1 | ⟨k0, s0, k, s, hl, rfl, e1⟩ <;> rw [e1]
 ·exact Nat.le_succ _
 ·exact Nat.le_of_eq List.length_append
 ·rw [List.length_append, List.length_dropLast]; exact Nat.succ_le_succ (Nat.sub_le _ _)
theorem fold_all (ds : List Ev) : ∀ (acc : List Ev) (n : Nat), acc ≠ [] -> (∀ x ∈ acc, evSmN n x) -> (∀ e ∈ ds, evDu e) -> ds.foldl jstep acc ≠ [] /\ (ds.foldl jstep acc).length <= acc.length + ds.length /\ ∀ x ∈ ds.foldl jstep acc, evSmN (n + 100 * ds.length) x := by
 induction ds with
 | nil => exact fun acc n h0 h1 _ => ⟨h0, Nat.le_refl _, h1⟩
 | cons e ds ih =>
  intro acc n h0 h1 h2
  obtain ⟨a1, a2, a3⟩ := ih (jstep acc e) (n + 100) (jstep_ne h0 e) (jstep_sm h1 (h2 e (.head _))) fun x hx => h2 x (.tail _ hx)
  have hl := jstep_len acc e
  refine ⟨a1, ?_, fun x hx => (a3 x hx).mono ?_⟩
  ·show (ds.foldl jstep (jstep acc e)).length <= acc.length + (ds.length + 1)
   lia
  ·rw [List.length_cons]; lia
theorem sum_out : ∀ xs : List Str, (xs.map (·.length)).sum = (outL xs).length
 | [] => rfl
 | x :: xs => by
  have := sum_out xs
  rw [List.map_cons, List.sum_cons, this]
  unfold outL
  rw [List.flatMap_cons, List.length_append, len_cps]
section
variable {c : Cx} {σ σ' : Store} {L : Addr} {N : Store -> Prop} {R : PV -> Store -> Prop} {g1 g2 g3 g4 g5 g6 g7 g8 g9 g10 g11 g12 g13 g14 : Option PV} {script : PV} {fs : Int} {b : Bool} {oa ua pa ja : Addr} {a : SA} {t : St} {due : List Ev} {path : List PE} {tb : Option (Addr × Obj)} {i : Nat} {ts : List Tk} {rs : RS}
noncomputable def Rf : PV -> Store -> Prop := fun p σ' => p = .bool true /\ ∃ ps, (116, Cell.obj (tabObj ps)) ∈ σ'
theorem tbS_has (tb : Option (Addr × Obj)) : ∃ ps, (116, Cell.obj (tabObj ps)) ∈ tbS tb := by
 cases tb with
 | none => exact ⟨_, .head _⟩
 | some x => exact ⟨#[rawInt 136, rawInt 71, .ref x.1], .head _⟩
theorem law_end (B : Base c) (hu : c.u + 3 < 8000) (hd : c.d + 1 < recursionLimit) (F : Fm (callEnv fd197 L 197) L NW) (hoa : a.out = oa) (hFI : FI i t due ts rs) (hi : i <= 130) (hst : LSt L script fs b oa ua pa a g1 t due path tb σ σ') :
  Xs c (callEnv fd197 L 197) (bd197.drop 10) σ' N Rf := by
 subst hoa
 obtain ⟨g2, g3, g4, g5, g6, g7, g8, g9, g10, g11, rfl⟩ := hst
 obtain ⟨d, ds, rfl⟩ := List.exists_cons_of_ne_nil hFI.dne
 have hdl := hFI.dul
 rw [List.length_cons] at hdl
 have hds : ∀ e ∈ ds, evDu e := fun e he => hFI.dok e (.tail _ he)
 have hd0 : evSmN 100 d := by
  have := (hFI.dok d (.head _)).2
  cases d with
  | tx k s => exact this
  | st t as => trivial
 obtain ⟨τ, hτ⟩ : ∃ τ, τ = lwT ua pa a t (d :: ds) path tb σ := ⟨_, rfl⟩
 have hdue : (ua, Cell.list ((d :: ds).map evP)) ∈ τ := by rw [hτ]; exact .head _
 have hout : (a.out, Cell.list (t.out.map .str)) ∈ τ := by
  rw [hτ]
  exact .tail _ (.tail _ (memR _ (memL _ (.tail _ (.tail _ (.head _))))))
 rw [<- hτ]
 refine Xs.cons (X.nm F (E.slC (E.n F (Pt.none (Pt.some (E.int ⟨_, rfl, (d :: ds).map evP, ((d :: ds).map evP).take 1, LV.list (.tail _ hdue), by rw [lnM, List.length_cons]; exact le_sz (by lia), fun V vs hv => hv.slUpto 1, fun ja => ⟨_, _, _, rfl, by trivial, ?_⟩⟩))))))
 refine Xs.cons (X.for (E.slL (E.n F (Pt.some (E.int ⟨_, rfl, Pt.none ⟨(d :: ds).map evP, ((d :: ds).map evP).drop 1, LV.list (.tail _ (memL _ hdue)), by rw [lnM, List.length_cons]; exact le_sz (by lia), fun V vs hv => hv.slFrom 1, ?_⟩⟩)))))
 refine ⟨ds.map evP, _, fun k σ' => ∃ g13 g14, σ' = stS L script fs b a.out ua pa a.x g1 g2 g3 g4 g5 g6 g7 g8 g9 g10 g11 (some (.raw (.ref ja))) g13 g14 (τ ++ [(ja, .list (((ds.take k).foldl jstep [d]).map evP))]), Itb.lst, ⟨none, none, rfl⟩, fun _ _ _ => trivial, ?_, ?_⟩
 ·rintro Fr β hb k q _ hq ⟨g13, g14, rfl⟩
  rw [List.getElem?_map] at hq
  obtain ⟨e, he, rfl⟩ := Option.map_eq_some_iff.mp hq
  have hk := (List.getElem?_eq_some_iff.mp he).1
  have htk : ds.take (k + 1) = ds.take k ++ [e] := by rw [List.take_add_one, he]; rfl
  have htl : (ds.take k).length <= 130 := by rw [List.length_take]; lia
  obtain ⟨a1, a2, a3⟩ := fold_all (ds.take k) [d] 100 (by simp) (fun x hx => by rw [List.mem_singleton.mp hx]; exact hd0) fun x hx => hds x (List.mem_of_mem_take hx)
  have hsucc : (ds.take (k + 1)).foldl jstep [d] = jstep ((ds.take k).foldl jstep [d]) e := by rw [htk, List.foldl_append]; rfl
  generalize hacc : (ds.take k).foldl jstep [d] = acc at a1 a2 a3 hsucc
  obtain ⟨acc', e0, rfl⟩ : ∃ acc' e0, acc = acc' ++ [e0] := by
   rcases List.eq_nil_or_concat acc with h0 | ⟨p, e, h0⟩
   ·exact absurd h0 a1
   ·exact ⟨p, e, by rw [h0]; simp⟩
  rw [evP_kw]
  refine Asg.tuple (Asg.name F.lo F.loc (by trivial) (Asg.name F.lo F.loc (by trivial) ?_)) rfl
  have h100 : (acc' ++ [e0]).length <= 131 := by simp at a2; rw [List.length_append]; simp; lia
  refine jn_turn (Z := 100 + 100 * (ds.take k).length) (B.ext hb) (by show c.u < 8000; lia) F (by lia) (by rw [List.length_append] at h100; simp at h100; lia) (a3 e0 (memR _ (.head _))) (hds e (List.mem_of_getElem? he)) ⟨some (.str (evK e)), some (evW e), ?_⟩
  rw [hsucc]
 ·rintro _ ⟨g13, g14, rfl⟩
  rw [lnM, List.take_length]
  have hjn : ds.foldl jstep [d] = jn (d :: ds) := rfl
  rw [hjn, hFI.duj]
  have hcat : catS t.out = Sl (ts.flatMap Tk.s) := str_of_cps (by rw [cat_out, hFI.out])
  have htz := hFI.tz
  rw [hFI.out] at htz
  refine Xs.cons (X.try (Xs.cons (X.return (E.cmp ?_))))
  refine E.postP (E.call (E.globK (v := .ref 192) B rfl rfl rfl (by kernel_rfl) ⟨_, rfl, Es.cons (E.meth (E.str (Gm.join (Es.cons (E.n F (Es.nil ⟨.builtin, Ca.join (xs := t.out) (LV.list (.tail _ (memL _ hout))) (by rw [sum_out, hFI.out]; exact le_sz (by lia)) ?_⟩)) rfl))) rfl) rfl⟩))
  rw [hcat]
  refine Es.nil ⟨.fn B (at192 _), Ca192 B hu hd hFI.run (by lia) (by have := hFI.tl; lia) fun ea => ?_⟩
  refine ⟨_, _, List.Perm.swap _ _ _, .refl _, ?_⟩
  refine E.n F (Cmp.eq_evs (es := rs.ev) (by lia) (LV.list (.tail _ (.head _))) (LV.list (.tail _ (.tail _ (memR _ (.head _))))) ?_ ⟨rfl, ?_⟩)
  ·rw [<- hFI.duj]
   exact jn_ok fun e he => (hFI.dok e he).1
  ·obtain ⟨ps, hps⟩ := tbS_has tb
   refine ⟨ps, .tail _ (.tail _ (memL _ ?_))⟩
   rw [hτ]
   exact .tail _ (.tail _ (memR _ (memR _ (memL _ hps))))
end
theorem law_run {c : Cx} {σ : Store} {L : Addr} {N : Store -> Prop} (B : Base c) (hu : c.u + 3 < 6000) (hd : c.d + 6 < recursionLimit) (F : Fm (callEnv fd197 L 197) L NW) {ns : List Int} (hn : ns.length <= 63) :
  Xs c (callEnv fd197 L 197) (bd197.drop 1) ((L, .loc NW [some (.lst (ns.map .int)), some (.str (uS 1)), some (.str (uS 2)), none, none, none, none, none, none, none, none, none, none, none, none, none, none, none, none, none, none, none, none, none, none, none, none]) :: (tbS none ++ σ)) N Rf := by
 refine law_pre1 B F (by lia) fun oa pa ua => ?_
 refine law_tgt B (by lia) F fun β a l1 l2 l3 hβ S ho => ?_
 have B' : Base (c.ext c.F β) := B.ext hβ
 refine law_mv B' F (by lia) ?_
 refine law_loop (a := a) B' S (show c.u < 6000 by lia) hd F hn rfl fun σ' t' due' path' tb' ts' rs' hFI hst => ?_
 have hl := mv_len ns
 exact law_end B' (show c.u + 3 < 8000 by lia) (show c.d + 1 < recursionLimit by lia) F ho hFI (by lia) hst
structure PBase (c : Cx) : Prop where
 K : ∀ a o, (KK c.P).lookup a = some o -> c.β.mem a = some o
 top : ∃ p loose mg mb, ∀ h : Heap, Le c.β h -> TopRead p loose mg mb h
 bm : ∃ (mg : Str -> Option Value) (bm : Addr) (ob : Obj), (∀ h : Heap, Le c.β h -> h.Ns mainGlobals mg) /\ mg "__builtins__" = some (.ref bm) /\ bm ≠ builtinsNs /\ c.β.mem bm = some ob /\ ob.cls = .type "module" /\ ob.dict = some builtinsNs /\ ob.data = .plain
theorem PBase.to {c : Cx} (B : PBase c) {β : View} (h : VLe c.β β) (ht : 0 < β.tk) : Base (c.ext c.F β) :=
 ⟨fun a o e => h.mem _ _ (B.K a o e), let ⟨p, l, mg, mb, t⟩ := B.top; ⟨p, l, mg, mb, fun hp k => t hp fun a o e => k a o (h.mem _ _ e)⟩, ht, let ⟨mg, bm, ob, a1, a2, a3, a4, r⟩ := B.bm; ⟨mg, bm, ob, fun hp k => a1 hp fun a o e => k a o (h.mem _ _ e), a2, a3, h.mem _ _ a4, r⟩⟩
section
variable {c : Cx} {env : Env} {σ τ : Store} {N : Store -> Prop} {R : PV -> Store -> Prop} {L : Addr} {ns : List Str} {vs vs' : List (Option PV)}
theorem Es.pairTk {x y : Str} {k1 k2 : Nat} {p1 p2 pos : Pos} {Q : List PV -> Store -> Prop} (h : ∀ t, Q [.str x, .tstr y t] σ) : Es c env [.Constant (.str x) k1 p1, .Constant (.str y) k2 p2] pos σ Q := fun V A s hA R hV => by
 show wpAny _ _ (spliced [(false, eval (.Constant (.str x) k1 p1) env), (false, eval (.Constant (.str y) k2 p2) env)]) _ _ _
 refine Calls.spliced_cons (wpAny_Constant_str ?_)
 refine Calls.spliced_cons (wpAny_Constant_str ?_)
 refine Calls.spliced_nil ?_
 have o := Out.toks R (s.toks + 1 + 1) (by lia)
 exact ⟨σ, o, [.str x, .tstr y (s.toks + 1)], .cons (.str _ _) (.cons (.tstr _ _ (Nat.succ_pos _) (Nat.lt_succ_self _)) .nil), h _⟩
theorem Xs.tk {st : List Stmt} {i : Nat} {x y : Str} {t : Tok} (hx : ns[i]? = some x) (hv : vs[i]? = some (some (.tstr y t)))
  (hw : ∀ (i : Nat) p', vs'[i]? = some (some p') -> ∃ p, vs[i]? = some (some p) /\ ∀ V v, VR V p v -> VR V p' v)
  (h : ∀ β, VLe c.β β -> 0 < β.tk -> Xs (c.ext c.F β) env st ((L, .loc ns vs') :: τ) N R) : Xs c env st ((L, .loc ns vs) :: τ) N R := fun V A s hA Rp hV => by
 obtain ⟨o, e, es, ep, hd, hk, hr⟩ := Rp.cells _ (.head _)
 obtain ⟨v, _, rv⟩ := hr i x _ hx hv
 have ht : 0 < s.toks := by
  cases rv with
  | tstr _ _ h1 h2 => exact Nat.lt_trans h1 h2
 have Rp' : Rep c ((L, .loc ns vs') :: τ) s := {
  nodup := Rp.nodup
  disj := Rp.disj
  old := Rp.old
  sys := Rp.sys
  big := Rp.big
  base := Rp.base
  cells := fun p hp => by
   rcases List.mem_cons.mp hp with rfl | hp
   ·refine ⟨o, e, es, ep, hd, hk, fun j x p' hx hv => ?_⟩
    obtain ⟨p, hp, hm⟩ := hw j p' hv
    obtain ⟨v, hf, rv⟩ := hr j x p hx hp
    exact ⟨v, hf, hm _ _ rv⟩
   ·exact Rp.cells p (.tail _ hp) }
 have od : Out c ((L, .loc ns vs) :: τ) s ((L, .loc ns vs') :: τ) s := ⟨⟨rfl, rfl⟩, Rp', .refl _, fun _ _ _ e => e⟩
 have run := h (vw c.F ((L, .loc ns vs') :: τ) s) Rp'.base ht (vw c.F ((L, .loc ns vs') :: τ) s) A s ⟨hA.handled, hA.depth, hA.units⟩ (Rp'.ext (.refl _)) (.refl _)
 exact wm run (fun f s1 ⟨σ1, o1, q⟩ => ⟨σ1, od.trans (o1.unext Rp'), q⟩)
theorem law_run0 {c : Cx} {σ : Store} {L : Addr} {N : Store -> Prop} (B : PBase c) (hu : c.u + 3 < 6000) (hd : c.d + 6 < recursionLimit) (F : Fm (callEnv fd197 L 197) L NW) {ns : List Int} (hn : ns.length <= 63) :
  Xs c (callEnv fd197 L 197) bd197 ((L, .loc NW [some (.lst (ns.map .int)), none, none, none, none, none, none, none, none, none, none, none, none, none, none, none, none, none, none, none, none, none, none, none, none, none, none]) :: (tbS none ++ σ)) N Rf := by
 refine Xs.cons ?_
 show X _ _ (.Assign [.Tuple [.Name "xml" _, .Name "xs" _] _ _] (.Tuple [.Constant (.str "http://www.w3.org/XML/1998/namespace") _ _, .Constant (.str "http://www.w3.org/2001/XMLSchema") _ _] _ _) _) _ _ _
 refine (X.asgT ?_ (by kernel_rfl) (by kernel_rfl) : X _ _ _ _ _ _)
 refine E.tuple (Es.pairTk fun t => ⟨le_sz (by show 2 <= 16777216; decide), ?_⟩)
 refine Asg.tuple (Asg.name F.lo F.loc (by trivial) (Asg.name F.lo F.loc (by trivial) ?_)) rfl
 refine Xs.tk (i := 2) (y := "http://www.w3.org/2001/XMLSchema") (t := t) (x := "xs") rfl rfl (vs' := [some (.lst (ns.map .int)), some (.str (uS 1)), some (.str (uS 2)), none, none, none, none, none, none, none, none, none, none, none, none, none, none, none, none, none, none, none, none, none, none, none, none]) (fun i p' hi => ?_) fun β hβ ht => ?_
 ·match i with
  | 0 => exact ⟨_, rfl, fun V v h => by simp at hi; subst hi; exact h⟩
  | 1 => exact ⟨_, rfl, fun V v h => by simp at hi; subst hi; exact h⟩
  | 2 => exact ⟨_, rfl, fun V v h => by
    simp at hi; subst hi
    cases h
    exact .str _ _⟩
  | k + 3 =>
   exfalso
   have e : ∀ (l : List (Option PV)), (∀ x ∈ l, x = none) -> ∀ k p, l[k]? ≠ some (some p) := fun l hl k p h => by
    have := hl _ (List.mem_of_getElem? h)
    cases this
   refine e _ ?_ k p' hi
   intro x hx
   simp at hx
   exact hx
 exact law_run (B.to hβ ht) hu hd F hn
end
theorem law_call {prog : Program} {w : World} {s1 : Shared} {p : Program} {loose : List Str} {mean : ExcName -> Option Value} {mg mb : Str -> Option Value} (KX : (hd.heap_1 w.params).In s1.heap) (h116 : s1.heap.get? 116 = some (tabObj #[])) (hT : TabsAt [(118, 116)] s1.heap)
  (T : Top p loose mean mg mb s1.heap) {la : Addr} {vs : List Value} {ns : List Int} (hla : s1.heap.get? la = some { cls := .type "list", data := .seq vs.toArray }) (hI : IntsAre vs ns) (hn : ns.length <= 63) (hg : s1.gens = #[]) :
  codeAny (model prog w) callerA (.call (.ref 197) ⟨[.ref la], []⟩) (fun r s' => r = .ok (.ret (.bool true)) /\ (∀ b o, (ghostOf s1.heap [(118, 116)]).get? b = some o -> s'.heap.get? b = some o) /\ s'.os = s1.os /\ s'.gens = #[] /\ GrownAll [(118, 116)] s'.heap) s1 := by
 let σ0 : Store := tbS none ++ []
 let c : Cx := { prog := prog, w := w, β := vw [] σ0 s1, F := [], d := 1 + claimMargin, u := 4 }
 have ha0 : addrs σ0 = [116] := rfl
 have hK116 : ∀ o, (KK w.params).lookup 116 ≠ some o := by
  have : (KK w.params).lookup 116 = none := by kernel_rfl
  intro o e
  rw [this] at e; cases e
 have hmem : ∀ a o, a ≠ 116 -> s1.heap.get? a = some o -> c.β.mem a = some o := fun a o hne e => vw_some.mpr ⟨by simp, by rw [ha0]; simpa using hne, e⟩
 have hmem' : ∀ a o, c.β.mem a = some o -> a ≠ 116 /\ s1.heap.get? a = some o := fun a o e => by
  obtain ⟨_, h2, h3⟩ := vw_some.mp e
  rw [ha0] at h2
  exact ⟨by simpa using h2, h3⟩
 have hKm : ∀ a o, (KK w.params).lookup a = some o -> c.β.mem a = some o := fun a o e => hmem a o (fun q => hK116 o (q ▸ e)) (KX a o e)
 have hgh : ∀ a o, (ghostOf s1.heap [(118, 116)]).get? a = some o -> c.β.mem a = some o := fun a o e => by
  refine hmem a o (fun q => ?_) (of_hideAll _ e)
  subst q
  have h0 : (hideAll s1.heap [116]).get? 116 = none := hideAll_none _ (List.mem_singleton.mpr rfl)
  rw [show (ghostOf s1.heap [(118, 116)]) = hideAll s1.heap [116] from rfl, h0] at e
  cases e
 have TR := topRead_of (ghost_top hT T)
 have P : PBase c := {
  K := hKm
  top := ⟨_, _, mg, mb, fun h hle => TR.keeps fun b o e => hle b o (hgh b o e)⟩
  bm := by
   obtain ⟨bm, ob, a1, a2, a3, a4, a5, a6⟩ := T.bmain
   exact ⟨mg, bm, ob, fun h hle => TR.g.keeps fun b o e => hle b o (hgh b o e), a1, a2, hmem bm ob (fun q => by
    subst q
    rw [h116] at a3
    cases a3
    cases a4) a3, a4, a5, a6⟩ }
 have R : Rep c σ0 s1 := {
  nodup := by rw [ha0]; simp
  disj := fun a _ h => by cases h
  old := fun a h => by cases h
  sys := by rw [ha0]; decide
  big := ⟨197, _, by decide, hKm 197 _ (at197 _)⟩
  base := .refl _
  cells := fun p hp => by
   have : p = (116, .obj (tabObj #[])) := by simpa [σ0, tbS, tabS] using hp
   subst this
   exact ⟨_, h116, rfl⟩ }
 have hA : AOk c callerA := ⟨rfl, Nat.le_refl _, Nat.le_refl _⟩
 have hla116 : la ≠ 116 := fun q => by
  subst q
  rw [h116] at hla
  cases hla
 have hv : VRs (vw c.F σ0 s1) [.lst (ns.map .int)] [.ref la] := by
  refine .cons (.lst (n := 0) (vs := vs) (hmem la _ hla116 hla) ?_) .nil
  clear hla
  induction hI with
  | nil => exact .nil
  | cons n t _ ih => exact .cons (.int _ _) (ih (by simp at hn; lia))
 have run := C.fnP (c := c) (σ := σ0) (Q := Rf) (pvs := [.lst (ns.map .int)]) (vals := [.ref la]) (ps := ["script"]) (os := NW.drop 1) (args := ⟨[.ref la], []⟩)
  (fun h hle a o e => hle a o (hKm a o e)) (fun h hle => (TR.keeps fun b o e => hle b o (hgh b o e)).nolimit) (at197 _) ok197 (cd197 _) (by decide : 1 + claimMargin < recursionLimit)
  (BindsTo.of_eq rfl) hv rfl (fun L hL => ?_) hA R
 ·refine codeAny_mono run fun r s' hq3 => ?_
  obtain ⟨v, σ', e, o, p, rv, hp, ps, hps⟩ := hq3
  subst hp
  have := rv.inv_bool
  subst this
  obtain ⟨ob, e1, e2⟩ := o.rep.cells _ hps
  refine ⟨e, fun b ob e => ?_, o.same.2, o.same.1.trans hg, ?_⟩
  ·exact (vw_some.mp (o.view.mem _ _ (hgh b ob e))).2.2
  ·exact ⟨⟨ps, by rw [e1]; exact congrArg some e2⟩, trivial⟩
 ·have B' : PBase { c with d := c.d + 1, u := c.u + 3 } := ⟨P.K, P.top, P.bm⟩
  refine (law_run0 (c := { c with d := c.d + 1, u := c.u + 3 }) (σ := []) B' (by decide : 4 + 3 + 3 < 6000) (by decide : 1 + claimMargin + 1 + 6 < recursionLimit) ⟨hL, rfl⟩ hn).mono (fun σ' h => h) fun p σ' h => ?_
  exact ⟨σ', .refl _, h⟩
theorem K_law (P : Params) : nsIn (KK P) mainGlobals "law" = some (some (.ref 197)) := by kernel_rfl
theorem isList_eq {h : Heap} {la : Addr} {vs vs' : List Value} (hL : h.IsList la vs.toArray) (hget : h.get? la = some { cls := .type "list", data := .seq vs'.toArray }) : vs' = vs := by
 obtain ⟨o2, e1, e2, n, e3⟩ := hL
 rw [hget] at e1
 cases e1
 injection e3 with e4 e5
 simpa using e4
theorem said_ok : OpenLaw.wellSaid PySem.Challenge.rw_kp0109_01 = true := by decide +kernel
set_option tactic.hygienic true in
theorem law_holds : PySem.Challenge.rw_kp0109_01.Holds := by
 refine holds_law said_ok fun _ => hd ?_
 intro w s₀ s1 mg mb G Y fa o pm cd doc dV kV ho hd' hcd hD hmg hg args vals as hpre hlay hrd hwl hlo
 have KX := km_in_of Y
 have h116 := km_tabs_of Y 116 (.head _)
 have hT : TabsAt [(118, 116)] s1.heap := List.forall_mem_cons.mpr ⟨⟨codeHd_of_K (c := 118) (P := 116) KX (by kernel_rfl), h116⟩, fun _ h => nomatch h⟩
 refine Ground.open G ?_
 intro T B D TE TW
 have hfa : fa = 197 := by
  have e1 : mg "law" = some (.ref 197) := mg_of KX T.g (K_law _)
  have e2 : mg "law" = some (.ref fa) := hmg
  rw [e1] at e2
  cases e2
  rfl
 subst hfa
 clear hmg hd' hcd hD ho
 wrow_args hpre hlay hrd hwl hlo
 rename_i ns hs hlay0 hLa hrA hl2 a4 a3 la vs a0 hL ra w1 r0 hI hr hc1 hc2
 have hn : ns.length <= 63 := by omega
 obtain ⟨vs', hget⟩ : ∃ vs' : List Value, s1.heap.get? la = some { cls := .type "list", data := .seq vs'.toArray } := by
  have w1' : Well w.params s1.heap (.ref la) (.list (ofPys (ns.map .int))) := w1
  cases w1' with
  | list h _ => exact ⟨_, h⟩
 have hvs : vs' = vs := isList_eq hL hget
 subst hvs
 refine enter_call (kn_post hT (fun _ _ => rfl) ?_)
 refine codeAny_mono (law_call KX h116 hT T hget hI hn hg) fun r s' hq1 => ?_
 obtain ⟨e1, e2, e3, e4, e5⟩ := hq1
 subst e1
 exact ⟨⟨.inl ⟨.bool true, .bool true, [], rfl, fun _ => rfl, .bool true, by wrow_post, fun _ => ⟨List.nodup_nil, fun a h => nomatch h⟩⟩, e2, e3, e4⟩, e5⟩
end Mine
theorem PySem.Challenge.cw_kp0109_01_holds : PySem.Challenge.rw_kp0109_01.Holds :=
  Mine.law_holds
