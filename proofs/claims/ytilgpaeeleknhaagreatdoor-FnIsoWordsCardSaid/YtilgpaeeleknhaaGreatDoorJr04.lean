/- A part of the proof of laws.FnIsoRock (see the last text). -/
import Derived.Test.YtilgpaeeleknhaaGreatDoorJr03
import Derived.Lib.CleanSame
set_option linter.unusedSimpArgs false
set_option linter.unusedVariables false
set_option maxRecDepth 1000000
set_option maxHeartbeats 8000000
namespace Go.Proofs.YtilgpaeeleknhaaGreatDoor
section
open Go
def joinP (ps : List (List UInt8)) : List UInt8 := ([47] : List UInt8).intercalate ps
structure GoodPart (s : List UInt8) : Prop where
 ne : s ≠ []
 no : (47 : UInt8) ∉ s
 dot : s ≠ [46]
 dots : s ≠ [46, 46]
theorem joinP_nil : joinP [] = [] := rfl
theorem joinP_one (s : List UInt8) : joinP [s] = s := by simp [joinP, List.intercalate]
theorem joinP_cons (s : List UInt8) (ps : List (List UInt8)) (h : ps ≠ []) : joinP (s :: ps) = s ++ 47 :: joinP ps := by
 cases ps with
 | nil => exact absurd rfl h
 | cons a r => simp [joinP, List.intercalate, List.intersperse]
theorem joinP_snoc (ps : List (List UInt8)) (s : List UInt8) (h : ps ≠ []) : joinP (ps ++ [s]) = joinP ps ++ 47 :: s := Lib.Pa.inter_snoc s ps h
theorem els_one (s : List UInt8) (h : (47 : UInt8) ∉ s) : Lib.Pa.els s = [s] := by
 induction s with
 | nil => rfl
 | cons c s ih =>
   have hc : c ≠ 47 := fun e => h (by simp [e])
   have hs := ih (fun hm => h (by simp [hm]))
   rw [Lib.Pa.els, if_neg hc, hs]
theorem els_app (s t : List UInt8) (h : (47 : UInt8) ∉ s) : Lib.Pa.els (s ++ 47 :: t) = s :: Lib.Pa.els t := by
 induction s with
 | nil => simp [Lib.Pa.els]
 | cons c s ih =>
   have hc : c ≠ 47 := fun e => h (by simp [e])
   have hs := ih (fun hm => h (by simp [hm]))
   rw [List.cons_append, Lib.Pa.els, if_neg hc, hs]
theorem els_join (ps : List (List UInt8)) (hne : ps ≠ []) (h : ∀ s ∈ ps, (47 : UInt8) ∉ s) : Lib.Pa.els (joinP ps) = ps := by
 induction ps with
 | nil => exact absurd rfl hne
 | cons s ps ih =>
   by_cases hp : ps = []
   . subst hp; rw [joinP_one, els_one s (h s (by simp))]
   . rw [joinP_cons s ps hp, els_app s _ (h s (by simp)), ih hp (fun t ht => h t (by simp [ht]))]
theorem els_join_slash (ps : List (List UInt8)) (hne : ps ≠ []) (h : ∀ s ∈ ps, (47 : UInt8) ∉ s) : Lib.Pa.els (joinP ps ++ [47]) = ps ++ [[]] := by
 induction ps with
 | nil => exact absurd rfl hne
 | cons s ps ih =>
   by_cases hp : ps = []
   . subst hp; rw [joinP_one, els_app s _ (h s (by simp))]; rfl
   . rw [joinP_cons s ps hp, List.append_assoc, List.cons_append, els_app s _ (h s (by simp)), ih hp (fun t ht => h t (by simp [ht]))]; rfl
theorem clean_fold (ro : Bool) (ps st : List (List UInt8)) (h : ∀ s ∈ ps, GoodPart s) : ps.foldl (Lib.Pa.cleanStep ro) st = ps.reverse ++ st := by
 induction ps generalizing st with
 | nil => rfl
 | cons s ps ih =>
   have hs := h s (by simp)
   rw [List.foldl_cons, ih _ (fun t ht => h t (by simp [ht]))]
   have : Lib.Pa.cleanStep ro st s = s :: st := by
    unfold Lib.Pa.cleanStep
    rw [if_neg (by rintro (e | e); exact hs.ne e; exact hs.dot e), if_neg hs.dots]
   rw [this]; simp
theorem joinP_ne (ps : List (List UInt8)) (hne : ps ≠ []) (h : ∀ s ∈ ps, GoodPart s) : joinP ps ≠ [] := by
 cases ps with
 | nil => exact absurd rfl hne
 | cons s ps =>
   have hs := (h s (by simp)).ne
   by_cases hp : ps = []
   . subst hp; rw [joinP_one]; exact hs
   . rw [joinP_cons s ps hp]; simp
theorem joinP_head (ps : List (List UInt8)) (hne : ps ≠ []) (h : ∀ s ∈ ps, GoodPart s) (t : List UInt8) : ((joinP ps ++ t).head? == some 47) = false := by
 cases ps with
 | nil => exact absurd rfl hne
 | cons s ps =>
   have hs := h s (by simp)
   cases s with
   | nil => exact absurd rfl hs.ne
   | cons c s =>
     have hc : c ≠ 47 := fun e => hs.no (by simp [e])
     by_cases hp : ps = []
     . subst hp; rw [joinP_one]; simp [hc]
     . rw [joinP_cons _ ps hp]; simp [hc]
theorem cleanEls_join (ps : List (List UInt8)) (hne : ps ≠ []) (h : ∀ s ∈ ps, GoodPart s) : Lib.Pa.cleanEls (joinP ps) = joinP ps := by
 have h1 := joinP_ne ps hne h
 have h2 := joinP_head ps hne h []
 rw [List.append_nil] at h2
 unfold Lib.Pa.cleanEls
 rw [if_neg h1, els_join ps hne (fun s hs => (h s hs).no)]
 simp only [h2, clean_fold false ps [] h, List.append_nil, List.reverse_reverse]
 have e : ([47] : List UInt8).intercalate ps = joinP ps := rfl
 rw [e, if_neg (by simp), if_neg h1]
theorem cleanEls_join_slash (ps : List (List UInt8)) (hne : ps ≠ []) (h : ∀ s ∈ ps, GoodPart s) : Lib.Pa.cleanEls (joinP ps ++ [47]) = joinP ps := by
 have h1 := joinP_ne ps hne h
 have h2 := joinP_head ps hne h [47]
 unfold Lib.Pa.cleanEls
 rw [if_neg (by simp), els_join_slash ps hne (fun s hs => (h s hs).no)]
 have e2 : (ps ++ [[]]).foldl (Lib.Pa.cleanStep false) [] = ps.reverse := by
  rw [List.foldl_append, clean_fold false ps [] h]; simp [Lib.Pa.cleanStep]
 simp only [h2, e2, List.reverse_reverse]
 have e : ([47] : List UInt8).intercalate ps = joinP ps := rfl
 rw [e, if_neg (by simp), if_neg h1]
theorem lastSlash_app (a s : List UInt8) (h : (47 : UInt8) ∉ s) : Lib.Pa.lastIndexByte (a ++ 47 :: s) 47 = a.length := by
 unfold Lib.Pa.lastIndexByte
 refine Lib.Pa.lastIdx_eq_of _ 47 a.length _ (by simp) ?_ ?_
 . rw [List.getElem?_append_right (Nat.le_refl _)]; simp
 . intro j h1 h2 e
   rw [List.getElem?_append_right (by omega)] at e
   obtain ⟨d, hd⟩ : ∃ d, j - a.length = d + 1 := ⟨j - a.length - 1, by omega⟩
   rw [hd, List.getElem?_cons_succ] at e
   exact h (List.mem_of_getElem? e)
theorem lastSlash_none (s : List UInt8) (h : (47 : UInt8) ∉ s) : Lib.Pa.lastIndexByte s 47 = -1 := by
 unfold Lib.Pa.lastIndexByte
 refine Lib.Pa.lastIdx_none _ 47 _ ?_
 intro j hj e
 exact h (List.mem_of_getElem? e)
theorem split_app (a s : List UInt8) (h : (47 : UInt8) ∉ s) : Lib.Pa.split (a ++ 47 :: s) = (a ++ [47], s) := by
 unfold Lib.Pa.split
 rw [lastSlash_app a s h]
 have e : ((a.length : Int) + 1).toNat = (a ++ [47]).length := by simp
 have e2 : a ++ 47 :: s = (a ++ [47]) ++ s := by simp
 rw [e, e2, List.take_left, List.drop_left]
theorem split_none (s : List UInt8) (h : (47 : UInt8) ∉ s) : Lib.Pa.split s = ([], s) := by
 unfold Lib.Pa.split
 rw [lastSlash_none s h]
 simp
theorem dir_join (ps : List (List UInt8)) (s : List UInt8) (h : ∀ t ∈ ps, GoodPart t) (hs : GoodPart s) : Lib.Pa.cleanEls (Lib.Pa.split (joinP (ps ++ [s]))).1 = if ps = [] then [46] else joinP ps := by
 by_cases hp : ps = []
 . subst hp
   rw [List.nil_append, joinP_one, split_none s hs.no, if_pos rfl]; rfl
 . rw [joinP_snoc ps s hp, split_app _ s hs.no, if_neg hp]
   exact cleanEls_join_slash ps hp h
theorem trim_last (l : List UInt8) (s : List UInt8) (hs : GoodPart s) : Lib.Pa.trimSlashes (l ++ s) = l ++ s := by
 unfold Lib.Pa.trimSlashes
 obtain ⟨c, r, hr⟩ : ∃ c r, s.reverse = c :: r := by
  cases h : s.reverse with
  | nil => exact absurd (by simpa using h) hs.ne
  | cons c r => exact ⟨c, r, rfl⟩
 have hc : c ≠ 47 := fun e => hs.no (by have : c ∈ s.reverse := by rw [hr]; simp
                                        rw [<- e]; simpa using this)
 rw [List.reverse_append, hr, List.cons_append, List.dropWhile_cons, if_neg (by simpa using hc), <- List.cons_append, <- hr, <- List.reverse_append, List.reverse_reverse]
theorem base_join (ps : List (List UInt8)) (s : List UInt8) (hs : GoodPart s) : Lib.Pa.base (joinP (ps ++ [s])) = s := by
 unfold Lib.Pa.base
 by_cases hp : ps = []
 . subst hp
   rw [List.nil_append, joinP_one, if_neg hs.ne]
   have := trim_last [] s hs
   rw [List.nil_append] at this
   rw [this, split_none s hs.no]
   rw [if_neg hs.ne]
 . have e : joinP (ps ++ [s]) = (joinP ps ++ [47]) ++ s := by rw [joinP_snoc ps s hp]; simp
   have hsp := split_app (joinP ps) s hs.no
   rw [<- joinP_snoc ps s hp] at hsp
   rw [if_neg (by rw [e]; simp), show Lib.Pa.trimSlashes (joinP (ps ++ [s])) = joinP (ps ++ [s]) by rw [e]; exact trim_last _ s hs, hsp, if_neg hs.ne]
theorem join_join (ps : List (List UInt8)) (hne : ps ≠ []) (h : ∀ s ∈ ps, GoodPart s) : Lib.Pa.join ps = joinP ps := by
 have hf : ps.filter (· ≠ []) = ps := List.filter_eq_self.2 (fun s hs => by simpa using (h s hs).ne)
 unfold Lib.Pa.join
 rw [hf, if_neg hne, Lib.Pa.clean_eq_cleanEls]
 exact cleanEls_join ps hne h
theorem cutAt_none (l : List UInt8) (k : Nat) (hk : k <= l.length) (h : ∀ j, j < k -> l[j]? ≠ some 47) : cutAt l k = ([], l) := by
 induction k with
 | zero => rfl
 | succ k ih =>
   have hlt : k < l.length := hk
   have hk' : ¬ l.getD k 0 = 47 := by
    have := h k (Nat.lt_succ_self k)
    rw [List.getElem?_eq_getElem hlt] at this
    rw [List.getD_eq_getElem?_getD, List.getElem?_eq_getElem hlt]
    intro e; exact this (by rw [<- e]; rfl)
   rw [cutAt, if_neg hk']
   exact ih (by omega) (fun j hj => h j (by omega))
theorem cutAt_app (a s : List UInt8) (h : (47 : UInt8) ∉ s) (k : Nat) (h1 : a.length < k) (h2 : k <= (a ++ 47 :: s).length) : cutAt (a ++ 47 :: s) k = (a, s) := by
 induction k with
 | zero => omega
 | succ k ih =>
   by_cases hk : k = a.length
   . subst hk
     have : (a ++ 47 :: s).getD a.length 0 = 47 := by simp [List.getD_eq_getElem?_getD]
     have e2 : a ++ 47 :: s = (a ++ [47]) ++ s := by simp
     rw [cutAt, if_pos this]
     congr 1
     . simp
     . rw [e2, show a.length + 1 = (a ++ [47]).length by simp, List.drop_left]
   . have hka : a.length < k := by omega
     obtain ⟨d, hd⟩ : ∃ d, k - a.length = d + 1 := ⟨k - a.length - 1, by omega⟩
     have hlt : d < s.length := by simp at h2; omega
     have : ¬ (a ++ 47 :: s).getD k 0 = 47 := by
      rw [List.getD_eq_getElem?_getD, List.getElem?_append_right (by omega), hd, List.getElem?_cons_succ, List.getElem?_eq_getElem hlt]
      intro e
      exact h (by rw [<- show s[d] = 47 from e]; exact List.getElem_mem hlt)
     rw [cutAt, if_neg this]
     exact ih hka (by omega)
theorem cutLast_join (ps : List (List UInt8)) (s : List UInt8) (h : (47 : UInt8) ∉ s) : cutLast (joinP (ps ++ [s])) = (joinP ps, s) := by
 unfold cutLast
 by_cases hp : ps = []
 . subst hp
   rw [List.nil_append, joinP_one, joinP_nil]
   exact cutAt_none s _ (Nat.le_refl _) (fun j hj e => h (List.mem_of_getElem? e))
 . rw [joinP_snoc ps s hp]
   exact cutAt_app _ s h _ (by simp) (Nat.le_refl _)
theorem joinP_els (l : List UInt8) : joinP (Lib.Pa.els l) = l := by
 induction l with
 | nil => rfl
 | cons c l ih =>
   rw [Lib.Pa.els]
   split
   . next h =>
     subst h
     cases hl : Lib.Pa.els l with
     | nil => rw [hl] at ih; rw [joinP_nil] at ih; subst ih; simp [Lib.Pa.els] at hl
     | cons a r =>
       rw [hl] at ih
       rw [joinP_cons [] (a :: r) (by simp), ih]; rfl
   . cases hl : Lib.Pa.els l with
     | nil => rw [hl] at ih; rw [joinP_nil] at ih; subst ih; simp [joinP_one]
     | cons a r =>
       rw [hl] at ih
       simp only
       by_cases hr : r = []
       . subst hr; rw [joinP_one] at ih ⊢; rw [ih]
       . rw [joinP_cons _ r hr] at ih ⊢; rw [<- ih]; rfl
theorem els_no (l : List UInt8) : ∀ s ∈ Lib.Pa.els l, (47 : UInt8) ∉ s := by
 induction l with
 | nil => intro s hs; simp [Lib.Pa.els] at hs; subst hs; simp
 | cons c l ih =>
   intro s hs
   rw [Lib.Pa.els] at hs
   split at hs
   . rcases List.mem_cons.1 hs with rfl | hs
     . simp
     . exact ih s hs
   . next hc =>
     cases hl : Lib.Pa.els l with
     | nil => rw [hl] at hs; simp at hs; subst hs; simpa using fun e : (47:UInt8) = c => hc e.symm
     | cons a r =>
       rw [hl] at hs ih
       simp only [List.mem_cons] at hs
       rcases hs with rfl | hs
       . have := ih a (by simp)
         simp only [List.mem_cons, not_or]
         exact ⟨fun e => hc e.symm, this⟩
       . exact ih s (by simp [hs])
theorem els_ne (l : List UInt8) : Lib.Pa.els l ≠ [] := by
 cases l with
 | nil => simp [Lib.Pa.els]
 | cons c l =>
   rw [Lib.Pa.els]
   split
   . simp
   . split <;> simp
end
end Go.Proofs.YtilgpaeeleknhaaGreatDoor
