/- A part of the proof of laws.FnIsoRock (see the last text). -/
import Derived.Test.YtilgpaeeleknhaaGreatDoorJr29
import Derived.Test.YtilgpaeeleknhaaGreatDoorJr18
set_option linter.unusedSimpArgs false
set_option linter.unusedVariables false
set_option maxRecDepth 1000000
set_option maxHeartbeats 8000000
namespace Go.Proofs.YtilgpaeeleknhaaGreatDoor
open Go Go.RowKit
theorem joinP_flat (s : List UInt8) (ps : List (List UInt8)) : joinP (s :: ps) = s ++ ps.flatMap (fun s => 47 :: s) := by
 induction ps generalizing s with
 | nil => simp [joinP_one]
 | cons t ps ih => rw [joinP_cons s (t :: ps) (by simp), ih, List.flatMap_cons]; simp
def suItems (f : File) : List Item := [.px f (if f.dir then 2 else 1), .tf f.time]
def linkComps (l : List UInt8) : List Comp := if l.head? = some 47 then none :: (Lib.Pa.els l.tail).map some else (Lib.Pa.els l).map some
def restItems (f : File) : List Item := .nm (cutLast f.p).2 :: (if f.target.data.toList = [] then [] else [.sl (linkComps f.target.data.toList)])
def suF (f : File) : List UInt8 := itemsB (suItems f)
def restF (f : File) : List UInt8 := itemsB (restItems f)
theorem suF_len (f : File) : (suF f).length = 62 := by
 show (itemsB [Item.px f _, Item.tf f.time]).length = 62
 simp only [itemsB, List.flatMap_cons, List.flatMap_nil, List.length_append, List.length_nil, Item.len]
 show 4 + (manyB (pxNums f _)).length + (4 + (tfBody f.time 3).length + 0) = 62
 rw [manyB_len, tfBody_len]; simp [pxNums]
def rockAt (a n : Nat) : Nat := if 2048 < a % 2048 + n then a + (2048 - a % 2048) else a
theorem rockAt_bd (a n : Nat) (h : n <= 2048) : a <= rockAt a n /\ rockAt a n <= a + 2048 /\ rockAt a n % 2048 + n <= 2048 := by
 unfold rockAt; split <;> omega
def rockN (n : Node) (i a : Nat) : Node × Nat :=
 if i = 0 then ({ n with su := suF n.f }, a)
 else if (suF n.f).length + (restF n.f).length <= 160 then ({ n with su := suF n.f ++ restF n.f }, a)
 else ({ n with su := suF n.f, more := restF n.f, place := rockAt a (restF n.f).length }, rockAt a (restF n.f).length + (restF n.f).length)
def rockGo : List Node -> Nat -> Nat -> List Node × Nat
 | [], _, a => ([], a)
 | n :: l, i, a => ((rockN n i a).1 :: (rockGo l (i + 1) (rockN n i a).2).1, (rockGo l (i + 1) (rockN n i a).2).2)
theorem rockGo_snoc (l : List Node) (n : Node) (i a : Nat) : rockGo (l ++ [n]) i a = ((rockGo l i a).1 ++ [(rockN n (i + l.length) (rockGo l i a).2).1], (rockN n (i + l.length) (rockGo l i a).2).2) := by
 induction l generalizing i a with
 | nil => rfl
 | cons m l ih =>
   simp only [List.cons_append, rockGo, ih, List.length_cons]
   rw [show i + 1 + l.length = i + (l.length + 1) by omega]
theorem rockGo_len (l : List Node) (i a : Nat) : (rockGo l i a).1.length = l.length := by
 induction l generalizing i a with
 | nil => rfl
 | cons m l ih => simp [rockGo, ih]
def areaTo (ns : List Node) (i : Nat) : Nat := (rockGo (ns.take i) 0 0).2
theorem rockGo_split (l m : List Node) (i a : Nat) : (rockGo (l ++ m) i a).1 = (rockGo l i a).1 ++ (rockGo m (i + l.length) (rockGo l i a).2).1 := by
 induction l generalizing i a with
 | nil => rfl
 | cons n l ih =>
   simp only [List.cons_append, rockGo, ih, List.length_cons]
   rw [show i + 1 + l.length = i + (l.length + 1) by omega]
theorem areaTo_succ (ns : List Node) (i : Nat) (h : i < ns.length) : areaTo ns (i + 1) = (rockN ns[i] i (areaTo ns i)).2 := by
 unfold areaTo
 rw [<- List.take_append_getElem h, rockGo_snoc, List.length_take, Nat.zero_add, Nat.min_eq_left (by omega)]
theorem rockGo_at (ns : List Node) (i : Nat) (h : i < ns.length) : (rockGo ns 0 0).1[i]? = some (rockN ns[i] i (areaTo ns i)).1 := by
 have e : ns = ns.take i ++ (ns[i] :: ns.drop (i + 1)) := by rw [<- List.drop_eq_getElem_cons h, List.take_append_drop]
 have hl : (ns.take i).length = i := by rw [List.length_take]; omega
 conv => lhs; rw [e, rockGo_split]
 rw [List.getElem?_append_right (by rw [rockGo_len, hl]; exact Nat.le_refl _), rockGo_len, hl, Nat.sub_self]
 simp only [rockGo, Nat.zero_add, List.getElem?_cons_zero]
 rfl
theorem areaTo_all (ns : List Node) : (rockGo ns 0 0).2 = areaTo ns ns.length := by unfold areaTo; rw [List.take_length]
theorem rockN_mono (n : Node) (i a : Nat) (h : (restF n.f).length <= 2048) : a <= (rockN n i a).2 := by
 unfold rockN
 split
 . exact Nat.le_refl _
 . split
   . exact Nat.le_refl _
   . have := rockAt_bd a _ h; simp only; omega
theorem rockN_bd (n : Node) (i a : Nat) (h : (restF n.f).length <= 400) : (rockN n i a).2 <= a + 2448 := by
 unfold rockN
 split
 . simp only; omega
 . split
   . simp only; omega
   . have := rockAt_bd a _ (show (restF n.f).length <= 2048 by omega); simp only; omega
theorem areaTo_mono (ns : List Node) (h : ∀ n ∈ ns, (restF n.f).length <= 2048) (i j : Nat) (hij : i <= j) (hj : j <= ns.length) : areaTo ns i <= areaTo ns j := by
 induction j with
 | zero => have : i = 0 := by omega
           subst this; exact Nat.le_refl _
 | succ j ih =>
   by_cases e : i = j + 1
   . subst e; exact Nat.le_refl _
   . have h1 := ih (by omega) (by omega)
     rw [areaTo_succ ns j (by omega)]
     exact Nat.le_trans h1 (rockN_mono _ _ _ (h _ (List.getElem_mem _)))
theorem areaTo_bd (ns : List Node) (h : ∀ n ∈ ns, (restF n.f).length <= 400) (i : Nat) (hi : i <= ns.length) : areaTo ns i <= i * 2448 := by
 induction i with
 | zero => simp [areaTo, rockGo]
 | succ i ih =>
   have h1 := ih (by omega)
   rw [areaTo_succ ns i (by omega)]
   have := rockN_bd ns[i] i (areaTo ns i) (h _ (List.getElem_mem _))
   omega
def rockAll (ns : List Node) : List Node × Nat :=
 ((rockGo ns 0 0).1.set 0 { nodeAt (rockGo ns 0 0).1 0 with place := rockAt (rockGo ns 0 0).2 157 }, rockAt (rockGo ns 0 0).2 157 + 157)
theorem rockAll_len (ns : List Node) : (rockAll ns).1.length = ns.length := by unfold rockAll; rw [List.length_set, rockGo_len]
theorem rockAll_zero (ns : List Node) (h : 0 < ns.length) : nodeAt (rockAll ns).1 0 = { nodeAt ns 0 with su := suF (nodeAt ns 0).f, place := rockAt (areaTo ns ns.length) 157 } := by
 have h0 := rockGo_at ns 0 h
 have hl := rockGo_len ns 0 0
 have e : nodeAt (rockGo ns 0 0).1 0 = { nodeAt ns 0 with su := suF (nodeAt ns 0).f } := by
  simp only [nodeAt, List.getD_eq_getElem?_getD, h0, List.getElem?_eq_getElem h]
  simp [rockN]
 unfold rockAll
 simp only [nodeAt, List.getD_eq_getElem?_getD, List.getElem?_set, if_pos, hl, h] at e ⊢
 simp only [Option.getD_some]
 rw [e, areaTo_all]
theorem rockAll_at (ns : List Node) (i : Nat) (h0 : 0 < i) (h : i < ns.length) : nodeAt (rockAll ns).1 i = (rockN (nodeAt ns i) i (areaTo ns i)).1 := by
 have h1 := rockGo_at ns i h
 unfold rockAll
 simp only [nodeAt, List.getD_eq_getElem?_getD, List.getElem?_set, if_neg (show ¬ 0 = i by omega), h1, List.getElem?_eq_getElem h]
 rfl
structure NodeT (w : World) (B g n c t M : Nat) (zs : List XNode) (y : XNode) : Prop where
 row : w.ownsRow B 64 18 (.slice (some ⟨g, 0, none⟩) n c) n (xcells (zs.set t y))
 kids : ∀ x ∈ zs, w.ownsRow B 3 1 (.slice x.ka x.kids.length x.kc) x.kids.length (x.kids.map IV)
 su : ∀ x ∈ zs, Own w B (.slice x.sa x.su.length x.sc) x.su
 more : ∀ x ∈ zs, Own w B (.slice x.ma x.more.length x.mc) x.more
 bound : NodesB M (.slice (some ⟨g, 0, none⟩) n c) zs
theorem NodeT.start {w : World} {B g n c t : Nat} {zs : List XNode} (h : NodesW w B (.slice (some ⟨g, 0, none⟩) n c) zs) (hn : n = zs.length) (ht : t < zs.length) : NodeT w B g n c t w.heap.size zs zs[t] := by
 subst hn
 exact ⟨by rw [List.set_getElem_self]; exact h.row, h.kids, h.su, h.more, h.bound⟩
theorem NodeT.later {w w' : World} {B g n c t M : Nat} {zs : List XNode} {y : XNode} (h : NodeT w B g n c t M zs y) (hb : Below w.heap.size w w') : NodeT w' B g n c t M zs y :=
 ⟨ownsRow_later h.row hb, fun x hx => ownsRow_later (h.kids x hx) hb, fun x hx => (h.su x hx).later hb, fun x hx => (h.more x hx).later hb, h.bound⟩
theorem NodeT.grown {w w' : World} {B g n c t M : Nat} {zs : List XNode} {y : XNode} {ob : Option Nat} (h : NodeT w B g n c t M zs y) (hg : w.grownBy w' ob) (ho : ∀ k, ob = some k -> M <= k) : NodeT w' B g n c t M zs y := by
 have hk : ∀ (e s n : Nat) (v : Value) (l : List Value), w.ownsRow B e s v n l -> (∀ k, v.ownBlock = some k -> k < M) -> w'.ownsRow B e s v n l := by
  intro e s n v l hr hv
  refine hr.kept hg ?_
  by_cases hn : v.ownBlock = none
  . exact .inl hn
  . refine .inr fun e => ?_
    cases hb : ob with
    | none => rw [hb] at e; exact hn e
    | some k => have h1 := ho k hb; have h2 := hv k (by rw [e, hb]); omega
 refine ⟨hk _ _ _ _ _ h.row h.bound.1, fun x hx => hk _ _ _ _ _ (h.kids x hx) fun k e => ?_, fun x hx => hk _ _ _ _ _ (h.su x hx) fun k e => ?_, fun x hx => hk _ _ _ _ _ (h.more x hx) fun k e => ?_, h.bound⟩
 . obtain ⟨a, e', rfl⟩ := ownBlock_of e; exact (h.bound.2 x hx).1 a e'
 . obtain ⟨a, e', rfl⟩ := ownBlock_of e; exact (h.bound.2 x hx).2.1 a e'
 . obtain ⟨a, e', rfl⟩ := ownBlock_of e; exact (h.bound.2 x hx).2.2 a e'
theorem NodeT.store {w : World} {B g n c t M : Nat} {zs : List XNode} {y : XNode} (h : NodeT w B g n c t M zs y) (hn : n = zs.length) (ht : t < zs.length) (j : Nat) (hj : j < 18) (u : Value) (y' : XNode) (hy : y'.cells = y.cells.set j u) :
 NodeT (w.setCell ⟨g, t * 18 + j, none⟩ u) B g n c t M zs y' := by
 have hst := World.ownsRow.stored h.row (t * 18 + j) u
 have ks : ∀ {e s n : Nat} {v : Value} {l : List Value}, w.ownsRow B e s v n l -> e ≠ 64 -> (w.setCell ⟨g, t * 18 + j, none⟩ u).ownsRow B e s v n l := fun hr he => hr.kept hst.2 (rows_ne hr h.row he)
 refine ⟨?_, fun x hx => ks (h.kids x hx) (by decide), fun x hx => ks (h.su x hx) (by decide), fun x hx => ks (h.more x hx) (by decide), h.bound⟩
 have := hst.1
 have ht' : t < (zs.set t y).length := by rw [List.length_set]; exact ht
 have e := xcells_set (zs.set t y) t ht' j hj u y' (by rw [List.getElem_set_self]; exact hy)
 rw [e, List.set_set] at this
 exact this
theorem NodeT.own {w : World} {B g n c t M B' e m k : Nat} {zs : List XNode} {y : XNode} {v u : Value} {l : List Value} (h : NodeT w B g n c t M zs y) (j : Nat) (ho : w.ownsRow B' e m v k l) (he : e ≠ 64) : (w.setCell ⟨g, j, none⟩ u).ownsRow B' e m v k l :=
 ho.kept (World.ownsRow.stored h.row j u).2 (rows_ne ho h.row he)
theorem NodeT.cell {w : World} {B g n c t M : Nat} {zs : List XNode} {y : XNode} (h : NodeT w B g n c t M zs y) (ht : t < zs.length) (j : Nat) (u : Value) (hu : y.cells[j]? = some u) : w.cell? ⟨g, t * 18 + j, none⟩ = some u := by
 have hj : j < 18 := (List.getElem?_eq_some_iff.1 hu).1
 have ht' : t < (zs.set t y).length := by rw [List.length_set]; exact ht
 have := World.ownsRow.cells h.row (g := g) rfl (t * 18 + j) u (by rw [xcells_get _ t ht' j hj, List.getElem_set_self]; exact hu)
 rwa [Addr.add_mid, Nat.zero_add] at this
theorem NodeT.range {w : World} {B g n c t M : Nat} {zs : List XNode} {y : XNode} (h : NodeT w B g n c t M zs y) (ht : t < zs.length) : w.rangeAt g (t * 18) y.cells := fun j u hu => h.cell ht j u hu
theorem NodeT.frozen {w : World} {B g n c t M : Nat} {zs : List XNode} {y : XNode} (h : NodeT w B g n c t M zs y) (hn : 0 < n) (j : Nat) : w.frozen? ⟨g, j, none⟩ = false := by
 rcases h.row.2 with ⟨hv, _⟩ | ⟨g', cap, cur, hv, _, hg, _⟩
 . cases hv
 . cases hv; simp [World.frozen?, hg]
theorem NodeT.lt {w : World} {B g n c t M : Nat} {zs : List XNode} {y : XNode} (h : NodeT w B g n c t M zs y) : B <= g /\ g < M := by
 refine ⟨?_, h.bound.1 g rfl⟩
 rcases h.row.2 with ⟨hv, _⟩ | ⟨g', cap, cur, hv, h1, _⟩
 . cases hv
 . cases hv; exact h1
theorem NodeT.finish {w : World} {B g n c t M : Nat} {zs : List XNode} {y : XNode} (h : NodeT w B g n c t M zs y) (ht : t < zs.length) (hn : n = zs.length) (h1 : y.kids = zs[t].kids) (h2 : y.ka = zs[t].ka) (h3 : y.kc = zs[t].kc)
 (hs : Own w B (.slice y.sa y.su.length y.sc) y.su) (hm : Own w B (.slice y.ma y.more.length y.mc) y.more) : NodesW w B (.slice (some ⟨g, 0, none⟩) n c) (zs.set t y) := by
 refine ⟨by rw [List.length_set]; rw [<- hn]; exact h.row, fun x hx => ?_, fun x hx => ?_, fun x hx => ?_⟩
 . rcases List.mem_or_eq_of_mem_set hx with hx | rfl
   . exact h.kids x hx
   . rw [h1, h2, h3]; exact h.kids _ (List.getElem_mem ht)
 . rcases List.mem_or_eq_of_mem_set hx with hx | rfl
   . exact h.su x hx
   . exact hs
 . rcases List.mem_or_eq_of_mem_set hx with hx | rfl
   . exact h.more x hx
   . exact hm
theorem sl_head (n : Nat) (h : n <= 255) : #[Value.int IntKind.u8 0, Value.int IntKind.u8 (n : Int)] = (BVs [0, u8 n]).toArray := by
 have e : (n : Int) = ((n % 256 : Nat) : Int) := by omega
 conv => lhs; rw [e]
 simp only [BVs, List.map, BV_u8]
 rfl
theorem compsB_map_app (a b : List (List UInt8)) : compsB ((a ++ b).map some) = compsB (a.map some) ++ compsB (b.map some) := by simp [compsB]
theorem compsB_three (ps : List (List UInt8)) (h : ∀ s ∈ ps, s ≠ []) : (compsB (ps.map some)).length <= 3 * (joinP ps).length := by
 induction ps with
 | nil => simp [compsB]
 | cons s ps ih =>
   have h1 := ih (fun t ht => h t (by simp [ht]))
   have h2 : 1 <= s.length := List.length_pos_iff.2 (h s (by simp))
   have h3 : (partB s).length <= s.length + 2 := by
    unfold partB; split
    . simp
    . split
      . simp
      . simp;
   have e : compsB ((s :: ps).map some) = partB s ++ compsB (ps.map some) := rfl
   rw [e, List.length_append]
   cases ps with
   | nil => rw [joinP_one]; simp [compsB]; omega
   | cons t ps => rw [joinP_cons s (t :: ps) (by simp), List.length_append, List.length_cons]; omega
theorem rd_litN (w : World) (l : List UInt8) (h : l.length <= 1000000000) (N : Nat) (hN : w.heap.size = N) : Rd (w.alloc (.cells (BVs l).toArray 5)) (N + 1) (.slice (some ⟨N, 0, none⟩) l.length l.length) l := by
 subst hN; exact rd_lit w l h
theorem rockSL_any (s : ByteArray) (w : World) (hne : s.data.toList ≠ []) (hL : LinkG s.data.toList) (hs : s.size <= 200) :
 Calls Tryz.prog 50 #[.string s] w fun e w' => (∃ A n c, e = .returned (.tuple #[.slice A n c, .bool (decide ((compsB (linkComps s.data.toList)).length <= 239))]) /\ Hid (n = (Item.sl (linkComps s.data.toList)).bytes.length) /\ Own w' w.heap.size (.slice A n c) (Item.sl (linkComps s.data.toList)).bytes) /\ Below w.heap.size w w' := by
 obtain ⟨l, hl⟩ : ∃ l, s.data.toList = l := ⟨_, rfl⟩
 rw [hl] at hne hL ⊢
 have hll : l.length = s.size := by rw [<- hl, Array.length_toList]; rfl
 have hpos : 0 < s.size := by rw [<- hll]; exact List.length_pos_iff.2 hne
 have hhd : l.head? = some s[0] := by
  rw [<- hl, List.head?_eq_getElem?, List.getElem?_eq_getElem (by rw [hl, hll]; exact hpos)]; rfl
 obtain ⟨r, hr, hp⟩ := hL.resolve_left hne
 obtain ⟨E, hE⟩ : ∃ E, Lib.Pa.els r = E := ⟨_, rfl⟩
 rw [hE] at hp
 have hEne : E ≠ [] := by rw [<- hE]; exact els_ne r
 have hEj : joinP E = r := by rw [<- hE]; exact joinP_els r
 have hEno : ∀ q ∈ E, (47 : UInt8) ∉ q := by rw [<- hE]; exact els_no r
 obtain ⟨C, hC⟩ : ∃ C, compsB (linkComps l) = C := ⟨_, rfl⟩
 have hbytes : (Item.sl (linkComps l)).bytes = suspB 83 76 (0 :: C) := by rw [<- hC]; rfl
 rw [hbytes, hC]
 have HP := Lib.hid hp; have HEJ := Lib.hid hEj; have HENO := Lib.hid hEno
 have hsp : (l.head? = some 47 /\ r = (s.extract 1 s.size).data.toList /\ [0, 8, 0] ++ compsB (E.map some) = 0 :: C /\ ((s[0].toNat : Int) == 47) = true) \/ (l.head? ≠ some 47 /\ r = s.data.toList /\ [0] ++ compsB (E.map some) = 0 :: C /\ ((s[0].toNat : Int) == 47) = false) := by
  rcases hr with e | ⟨e, h⟩
  . refine .inl ⟨by rw [e]; rfl, ?_, ?_, ?_⟩
    . rw [Lib.extract_to_end, hl, e]; rfl
    . rw [<- hC]; unfold linkComps; rw [if_pos (by rw [e]; rfl), e]
      show _ = 0 :: compsB (none :: (Lib.Pa.els r).map some)
      rw [hE]; rfl
    . rw [e] at hhd; have : s[0] = 47 := by simpa using hhd.symm
      rw [this]; rfl
  . refine .inr ⟨h, by rw [hl, e], ?_, ?_⟩
    . rw [<- hC]; unfold linkComps; rw [if_neg h, e, hE]; rfl
    . rw [hhd] at h
      have h2 : s[0] ≠ 47 := fun e' => h (by rw [e'])
      simp only [beq_eq_false_iff_ne, ne_eq]
      intro e'
      exact h2 (UInt8.toNat_inj.1 (by show s[0].toNat = 47; omega))
 have hrl : (joinP E).length <= 200 := by
  rw [hEj]
  rcases hr with e | ⟨e, _⟩
  . rw [e] at hll; simp at hll; omega
  . rw [<- e]; omega
 have hCB := compsB_three E (fun q hq => (hp q hq).pos)
 have HRL := Lib.hid hrl; have HCB := Lib.hid hCB
 clear hr hp hEj hEno hC hbytes hL hhd hll hE hrl hCB
 rcases hsp with ⟨h47, hr, hC, hb47⟩ | ⟨h47, hr, hC, hb47⟩
 focus
  have HR := Lib.hid hr; have HC := Lib.hid hC
  have ho1 : Own (w.alloc (.cells #[.int .u8 0] 5)) w.heap.size (.slice (some ⟨w.heap.size, 0, none⟩) 1 1) [0] := Own.new (w := w) [0] (by simp [maxLen])
  have hb1 : Below w.heap.size w (w.alloc (.cells #[.int .u8 0] 5)) := (Below.refl _ _).alloc (Nat.le_refl _) _
  have HO1 := Lib.hid ho1; have HB1 := Lib.hid hb1
  clear h47 hr hC ho1 hb1
  go_enter Tryz.func50, Tryz.ntmps50
  go_upto_region 5 with (at_builtin; refine asList rfl fun K hK => ?_; go_must (refine go_appB (w0 := w) (.tmp 11) (.tmp 12) rfl w.heap.size _ _ _ [0] [8, 0] rfl (HO1.out.later ((Below.refl _ _).alloc (Nat.le_refl _) _)) rfl (rd_litN (w.alloc (.cells #[.int .u8 0] 5)) [8, 0] (by decide) (w.heap.size + 1) (by simp)) (by decide) (HB1.out.alloc HB1.out.size _) (Nat.le_refl _) ?_); rintro A c W L hL hl1 hl2 hO hbW hg; clear hg; refine hK _ _ ?_; clear hK K)
  obtain ⟨u, hu⟩ : ∃ u, s.extract 1 s.size = u := ⟨_, rfl⟩
  have HU : Hid (u.data.toList = joinP E) := by unfold Hid; rw [<- hu, HEJ.out]; exact HR.out.symm
  rw [hu]
  obtain ⟨pre, hpre⟩ : ∃ pre : List UInt8, pre = [0, 8, 0] := ⟨_, rfl⟩
  have hL' : L = pre := by rw [hpre]; exact hL.out
  rw [hL'] at hO hl1 hl2 ⊢
  have HPC : Hid (pre ++ compsB (E.map some) = 0 :: C) := by unfold Hid; rw [hpre]; exact HC.out
  obtain ⟨n, hn⟩ : ∃ n, pre.length = n := ⟨_, rfl⟩
  have hn3 : n <= 3 := by rw [<- hn, hpre]; decide
  rw [hn] at hO ⊢
  clear hl1 hl2 hL hL' hu HO1 HB1 hb47 HR HC hpre
  skip
 rotate_left
 focus
  have HR := Lib.hid hr; have HC := Lib.hid hC
  have hO : Own (w.alloc (.cells #[.int .u8 0] 5)) w.heap.size (.slice (some ⟨w.heap.size, 0, none⟩) 1 1) [0] := Own.new (w := w) [0] (by simp [maxLen])
  have hbW : Below w.heap.size w (w.alloc (.cells #[.int .u8 0] 5)) := (Below.refl _ _).alloc (Nat.le_refl _) _
  clear h47 hr hC
  go_enter Tryz.func50, Tryz.ntmps50
  go_upto_region 5 with (fail)
  have HU : Hid (s.data.toList = joinP E) := by unfold Hid; rw [HEJ.out]; exact HR.out.symm
  obtain ⟨u, hu⟩ : ∃ u, u = s := ⟨_, rfl⟩
  subst hu
  obtain ⟨pre, hpre⟩ : ∃ pre : List UInt8, pre = [0] := ⟨_, rfl⟩
  have HPC : Hid (pre ++ compsB (E.map some) = 0 :: C) := by unfold Hid; rw [hpre]; exact HC.out
  obtain ⟨n, hn⟩ : ∃ n, pre.length = n := ⟨_, rfl⟩
  have hn1 : n = 1 := by rw [<- hn, hpre]; rfl
  have hn3 : n <= 3 := by omega
  rw [<- hpre] at hO
  obtain ⟨A, hA⟩ : ∃ A : Option Addr, (some ⟨w.heap.size, 0, none⟩ : Option Addr) = A := ⟨_, rfl⟩
  obtain ⟨c, hc⟩ : ∃ c : Nat, 1 = c := ⟨_, rfl⟩
  rw [hA] at hO ⊢
  rw [show (Value.slice A 1 1) = Value.slice A n c by rw [hn1, <- hc]] at hO ⊢
  generalize w.alloc (.cells #[.int .u8 0] 5) = W at hO hbW ⊢
  clear hA hc hn1 HR HC hpre hb47
  skip
 all_goals
  have HPN := Lib.hid hn
  have hu2 : u.size <= 200 := by rw [Lib.size_eq, HU.out]; exact HRL.out
  have HCM : ∀ t, Hid ((pre ++ compsB ((E.take t).map some)).length <= 603) := fun t => by
   unfold Hid
   have h1 : compsB (E.map some) = compsB ((E.take t).map some) ++ compsB ((E.drop t).map some) := by rw [<- compsB_map_app, List.take_append_drop]
   have h2 := HCB.out
   have h3 := HRL.out
   have h4 := HPN.out
   rw [h1, List.length_append] at h2
   rw [List.length_append]; omega
  clear hn
  go_loopw [0, 2, 3, 4, 5, 6, 46, 48, 53] (fun tv r2 r3 bv _ _ _ _ _ wr => ∃ (t m c' : Nat) (A' : Option Addr) (nm : ByteArray), t <= E.length /\ tv = .string nm /\ Hid (nm.data.toList = joinP (E.drop t)) /\ nm.size <= 200 /\ r2 = .slice none 0 0 /\ r3 = .bool false /\ bv = .slice A' m c' /\ Hid ((pre ++ compsB ((E.take t).map some)).length = m) /\ Own wr w.heap.size (.slice A' m c') (pre ++ compsB ((E.take t).map some)) /\ Below w.heap.size w wr) (fun tv _ _ _ _ _ _ _ _ _ => match tv with | .string c => c.size | _ => 0)
  case atStart => exact ⟨0, n, c, A, u, Nat.zero_le _, rfl, by unfold Hid; rw [List.drop_zero]; exact HU.out, hu2, rfl, rfl, rfl, by unfold Hid; simp [compsB]; exact HPN.out, by simpa [compsB] using hO, hbW⟩
  case round =>
   clear hO hbW
   obtain ⟨t, m, c', A', nm, ht, rfl, hnm, hns, rfl, rfl, rfl, hm, hO, hb⟩ := hrel
   by_cases hlt : t < E.length
   . have hdr := List.drop_eq_getElem_cons hlt
     obtain ⟨q, hq⟩ : ∃ q, E[t] = q := ⟨_, rfl⟩
     rw [hq] at hdr
     have hqm : q ∈ E := by rw [<- hq]; exact List.getElem_mem hlt
     have hqp := HP.out q hqm
     have hqn := HENO.out q hqm
     have htk : E.take (t + 1) = E.take t ++ [q] := by rw [<- List.take_append_getElem hlt, hq]
     obtain ⟨T, hTT, hor⟩ : ∃ T, nm.data.toList = q ++ T /\ ((T = [] /\ t + 1 = E.length) \/ (t + 1 < E.length /\ T = 47 :: joinP (E.drop (t + 1)))) := by
      by_cases hlast : t + 1 = E.length
      . refine ⟨[], ?_, .inl ⟨rfl, hlast⟩⟩
        rw [hnm.out, hdr, List.drop_eq_nil_of_le (by omega), joinP_one, List.append_nil]
      . refine ⟨47 :: joinP (E.drop (t + 1)), ?_, .inr ⟨by omega, rfl⟩⟩
        rw [hnm.out, hdr, joinP_cons]
        intro e
        have := congrArg List.length e
        rw [List.length_drop] at this; simp at this; omega
     have hsize : nm.size = q.length + T.length := by rw [Lib.size_eq, hTT, List.length_append]
     obtain ⟨k, hk⟩ : ∃ k, q.length = k := ⟨_, rfl⟩
     have hx := extract_head nm q T hTT
     rw [hk] at hx hsize
     have hk1 : 1 <= k := by rw [<- hk]; exact List.length_pos_iff.2 hqp.pos
     have hk2 : k <= 100 := by rw [<- hk]; exact hqp.len
     have e0 : nm.toList.isEmpty = false := by
      rw [Lib.toList_data, hTT]
      cases q with
      | nil => exact absurd rfl hqp.pos
      | cons _ _ => rfl
     have hstep : Hid (pre ++ compsB ((E.take (t + 1)).map some) = (pre ++ compsB ((E.take t).map some)) ++ partB q) := by
      unfold Hid; rw [htk, compsB_map_app, List.append_assoc]; simp [compsB, compB]
     have HTT := Lib.hid hTT; have HK := Lib.hid hk; have HOR := Lib.hid hor; have HSIZE := Lib.hid hsize
     have hqp' := Lib.hid hqp; have hqn' := Lib.hid hqn; have HX := Lib.hid hx; have HM := Lib.hid hm
     have hksz : k <= nm.size := by omega
     have hm603 : m <= 603 := by have := (HCM t).out; rw [hm.out] at this; exact this
     obtain ⟨BB, hBB⟩ : ∃ BB, pre ++ compsB ((E.take t).map some) = BB := ⟨_, rfl⟩
     have HBB := Lib.hid hBB
     rw [hBB] at hO hstep HM
     clear hTT hk hor hsize hdr hq hqm hqp hqn htk hx hm hBB
     have e1 : q.isEmpty = false := by cases q with | nil => exact absurd rfl hqp'.out.pos | cons _ _ => rfl
     go_wp2_with (fail)
     rcases HOR.out with ⟨hTe, hlast⟩ | ⟨hlast, hTe⟩
     . have hsz2 : nm.size = k := by rw [HSIZE.out, hTe]; rfl
       have hnq : nm = ofL q := (ofL_iff _ _).2 (by rw [HTT.out, hTe, List.append_nil])
       have HNQ := Lib.hid hnq
       clear hnq
       go_loopw [0, 5, 6, 21] (fun tv pv _ jv wr' => ∃ j : Nat, j <= k /\ jv = .int .i64 j /\ tv = .string ⟨#[]⟩ /\ pv = .string nm /\ wr' = wr) (fun _ _ _ jv _ => k - (intOf jv).toNat)
       case atStart => exact ⟨0, Nat.zero_le _, rfl, rfl, rfl, rfl⟩
       case round =>
        obtain ⟨j, hj, rfl, rfl, rfl, hw⟩ := hrel
        have hw' := hw.symm
        subst hw'
        clear hw
        by_cases hjk : j < k
        . have hjs : j < nm.size := by omega
          have hgj := get_first nm q T HTT.out j (by rw [HK.out]; exact hjk) hjs
          have hne47 : ((nm[j].toNat : Int) == 47) = false := by
           simp only [beq_eq_false_iff_ne, ne_eq]
           intro e
           have : nm[j] = 47 := UInt8.toNat_inj.1 (by show nm[j].toNat = 47; omega)
           rw [hgj] at this
           exact hqn'.out (by rw [<- this]; exact List.getElem_mem _)
          have hjI : (j : Int) < (nm.size : Int) := by omega
          clear hgj
          go_wp2_with (fail)
          go_roundw
          case rel => exact ⟨j + 1, hjk, by simp, rfl, rfl, by first | rfl | trivial⟩
          case measure => simp [intOf]; omega
        . have hje : j = k := by omega
          subst hje
          go_upto_region 17 with (fail)
          rw [HNQ.out]
          refine genH (F := fun W => Own W w.heap.size (.slice A' m c') BB /\ Below w.heap.size w W) ⟨hO, hb⟩ (fun wc hwc => ?_)
          obtain ⟨hOc, hbc⟩ := hwc
          clear hO hb e0 hsz2 hns
          by_cases hq1 : q = [46]
          . have p1 : (q == [46]) = true := by rw [hq1]; rfl
            have PB : Hid (partB q = [2, 0]) := by unfold Hid partB; rw [if_pos hq1]
            go_wp2_with (at_builtin; refine asList rfl fun K hK => ?_; go_must (refine go_appB (w0 := w) (.tmp 50) (.tmp 51) rfl w.heap.size _ _ _ BB [2, 0] rfl (hOc.later ((Below.refl _ _).alloc (Nat.le_refl _) _)) rfl (rd_litN wc [2, 0] (by decide) wc.heap.size rfl) (by rw [HM.out]; simp; omega) (hbc.alloc hbc.size _) (Nat.le_refl _) ?_); rintro A5 c5 w5 L5 hL5 hl5 hl5' ho5 hb5 hg5; refine hK _ _ ?_; clear hK K)
            have LL : Hid (L5 = BB ++ [2, 0]) := hL5
            have HO5 := Lib.hid ho5
            clear p1 hq1 hOc hbc hg5 hl5 hl5' hL5 ho5
            go_roundw
            case rel => exact ⟨t + 1, _, _, _, ⟨#[]⟩, hlt, rfl, by unfold Hid; rw [List.drop_eq_nil_of_le (by omega)]; rfl, by decide, rfl, rfl, rfl, by unfold Hid; rw [hstep.out, PB.out, <- LL.out], by rw [hstep.out, PB.out, <- LL.out]; exact HO5.out, hb5⟩
            case measure => show (⟨#[]⟩ : ByteArray).size < nm.size; rw [HSIZE.out]; show 0 < _; omega
          . by_cases hq2 : q = [46, 46]
            . have p1 : (q == [46]) = false := by simpa using hq1
              have p2 : (q == [46, 46]) = true := by rw [hq2]; rfl
              have PB : Hid (partB q = [4, 0]) := by unfold Hid partB; rw [if_neg hq1, if_pos hq2]
              go_wp2_with (at_builtin; refine asList rfl fun K hK => ?_; go_must (refine go_appB (w0 := w) (.tmp 55) (.tmp 56) rfl w.heap.size _ _ _ BB [4, 0] rfl (hOc.later ((Below.refl _ _).alloc (Nat.le_refl _) _)) rfl (rd_litN wc [4, 0] (by decide) wc.heap.size rfl) (by rw [HM.out]; simp; omega) (hbc.alloc hbc.size _) (Nat.le_refl _) ?_); rintro A5 c5 w5 L5 hL5 hl5 hl5' ho5 hb5 hg5; refine hK _ _ ?_; clear hK K)
              have LL : Hid (L5 = BB ++ [4, 0]) := hL5
              have HO5 := Lib.hid ho5
              clear p1 p2 hq1 hq2 hOc hbc hg5 hl5 hl5' hL5 ho5
              go_roundw
              case rel => exact ⟨t + 1, _, _, _, ⟨#[]⟩, hlt, rfl, by unfold Hid; rw [List.drop_eq_nil_of_le (by omega)]; rfl, by decide, rfl, rfl, rfl, by unfold Hid; rw [hstep.out, PB.out, <- LL.out], by rw [hstep.out, PB.out, <- LL.out]; exact HO5.out, hb5⟩
              case measure => show (⟨#[]⟩ : ByteArray).size < nm.size; rw [HSIZE.out]; show 0 < _; omega
            . have p1 : (q == [46]) = false := by simpa using hq1
              have p2 : (q == [46, 46]) = false := by simpa using hq2
              have PB : Hid (partB q = [0, u8 q.length] ++ q) := by unfold Hid partB; rw [if_neg hq1, if_neg hq2]; rfl
              have HE := Lib.hid (sl_head q.length (by rw [HK.out]; omega))
              have hql : q.length <= 100 := by rw [HK.out]; exact hk2
              go_upto_region 16 with (at_builtin; go_must (rw [HE.out]); refine asList rfl fun K hK => ?_; go_must (refine go_appB (w0 := w) (.tmp 37) (.tmp 41) rfl w.heap.size _ _ _ BB [0, u8 q.length] rfl (hOc.later ((Below.refl _ _).alloc (Nat.le_refl _) _)) rfl (rd_litN wc [0, u8 q.length] (by simp) wc.heap.size rfl) (by rw [HM.out]; simp; omega) (hbc.alloc hbc.size _) (Nat.le_refl _) ?_); rintro A4 c4 w4 L4 hL4 hl4 hl4' ho4 hb4 hg4; refine hK _ _ ?_; clear hK K)
              have hl4b : L4.length <= 605 := by rw [HM.out] at hl4; simp at hl4; omega
              clear hg4 hl4 hl4' p1 p2 hOc hbc
              go_wp2_with (at_builtin; refine asList rfl fun K hK => ?_; go_must (refine go_appS (w0 := w) (.tmp 43) (.tmp 44) rfl w.heap.size _ L4 (ofL q) rfl ho4 rfl (by rw [size_ofL]; omega) hb4 (Nat.le_refl _) ?_); rintro A5 c5 w5 L5 hL5 hl5 hl5' ho5 hb5 hg5; refine hK _ _ ?_; clear hK K)
              have LL : Hid (L5 = BB ++ ([0, u8 q.length] ++ q)) := by unfold Hid; rw [hL5.out, hL4.out, List.append_assoc]
              have HO5 := Lib.hid ho5
              clear hq1 hq2 hg5 hl5 hl5' hL5 ho5 ho4 hL4
              go_roundw
              case rel => exact ⟨t + 1, _, _, _, ⟨#[]⟩, hlt, rfl, by unfold Hid; rw [List.drop_eq_nil_of_le (by omega)]; rfl, by decide, rfl, rfl, rfl, by unfold Hid; rw [hstep.out, PB.out, <- LL.out], by rw [hstep.out, PB.out, <- LL.out]; exact HO5.out, hb5⟩
              case measure => show (⟨#[]⟩ : ByteArray).size < nm.size; rw [HSIZE.out]; show 0 < _; omega
     . have hks : k < nm.size := by rw [HSIZE.out, hTe]; simp
       have hg47 : nm[k] = 47 := by
        have hh := HTT.out
        rw [hTe] at hh
        have := get_slash nm q _ 47 hh (by rw [HK.out]; exact hks)
        simp only [HK.out] at this
        exact this
       have htl := extract_tail nm q (joinP (E.drop (t + 1))) 47 (by rw [HTT.out, hTe])
       rw [HK.out] at htl
       have hsz3 : k + 1 + (joinP (E.drop (t + 1))).length = nm.size := by rw [HSIZE.out, hTe]; simp; omega
       have HSZ3 := Lib.hid hsz3
       have HTL := Lib.hid htl
       have HG47 := Lib.hid hg47
       clear hsz3 htl hg47
       go_loopw [0, 5, 6, 21] (fun tv pv _ jv wr' => ∃ j : Nat, j <= k /\ jv = .int .i64 j /\ tv = .string ⟨#[]⟩ /\ pv = .string nm /\ wr' = wr) (fun _ _ _ jv _ => k - (intOf jv).toNat)
       case atStart => exact ⟨0, Nat.zero_le _, rfl, rfl, rfl, rfl⟩
       case round =>
        obtain ⟨j, hj, rfl, rfl, rfl, hw⟩ := hrel
        have hw' := hw.symm
        subst hw'
        clear hw
        by_cases hjk : j < k
        . have hjs : j < nm.size := by omega
          have hgj := get_first nm q T HTT.out j (by rw [HK.out]; exact hjk) hjs
          have hne47 : ((nm[j].toNat : Int) == 47) = false := by
           simp only [beq_eq_false_iff_ne, ne_eq]
           intro e
           have : nm[j] = 47 := UInt8.toNat_inj.1 (by show nm[j].toNat = 47; omega)
           rw [hgj] at this
           exact hqn'.out (by rw [<- this]; exact List.getElem_mem _)
          have hjI : (j : Int) < (nm.size : Int) := by omega
          clear hgj
          go_wp2_with (fail)
          go_roundw
          case rel => exact ⟨j + 1, hjk, by simp, rfl, rfl, by first | rfl | trivial⟩
          case measure => simp [intOf]; omega
        . have hje : j = k := by omega
          subst hje
          have hne47 : ((nm[j].toNat : Int) == 47) = true := by rw [HG47.out]; rfl
          have hjI : (j : Int) < (nm.size : Int) := by omega
          have hj1 : (j : Int) + 1 <= (nm.size : Int) := by omega
          have hj2 : (0 : Int) <= (j : Int) := by omega
          have hj3 : (j : Int) <= (nm.size : Int) := by omega
          have hj4 : (0 : Int) <= (j : Int) + 1 := by omega
          have hj5 : IntKind.i64.wrap ((j : Int) + 1) = (j : Int) + 1 := by rw [IntKind.wrap_i64]; omega
          have hj6 : ((j : Int) + 1).toNat = j + 1 := by omega
          go_upto_region 12 with (fail)
          go_region_held3 (fun _ => True) (trivial) (first | fail)
          all_goals
           go_upto_region 17 with (fail)
          rw [HX.out, HTL.out]
          refine genH (F := fun W => Own W w.heap.size (.slice A' m c') BB /\ Below w.heap.size w W) ⟨hO.later (Below.refl _ _).drew, hb.drew⟩ (fun wc hwc => ?_)
          obtain ⟨hOc, hbc⟩ := hwc
          clear hO hb e0
          by_cases hq1 : q = [46]
          . have p1 : (q == [46]) = true := by rw [hq1]; rfl
            have PB : Hid (partB q = [2, 0]) := by unfold Hid partB; rw [if_pos hq1]
            go_wp2_with (at_builtin; refine asList rfl fun K hK => ?_; go_must (refine go_appB (w0 := w) (.tmp 50) (.tmp 51) rfl w.heap.size _ _ _ BB [2, 0] rfl (hOc.later ((Below.refl _ _).alloc (Nat.le_refl _) _)) rfl (rd_litN wc [2, 0] (by decide) wc.heap.size rfl) (by rw [HM.out]; simp; omega) (hbc.alloc hbc.size _) (Nat.le_refl _) ?_); rintro A5 c5 w5 L5 hL5 hl5 hl5' ho5 hb5 hg5; refine hK _ _ ?_; clear hK K)
            have LL : Hid (L5 = BB ++ [2, 0]) := hL5
            have HO5 := Lib.hid ho5
            clear p1 hq1 hOc hbc hg5 hl5 hl5' hL5 ho5
            go_roundw
            case rel => exact ⟨t + 1, _, _, _, ofL (joinP (E.drop (t + 1))), hlt, rfl, rfl, by rw [size_ofL]; have := HSZ3.out; omega, rfl, rfl, rfl, by unfold Hid; rw [hstep.out, PB.out, <- LL.out], by rw [hstep.out, PB.out, <- LL.out]; exact HO5.out, hb5⟩
            case measure => show (ofL (joinP (E.drop (t + 1)))).size < nm.size; rw [size_ofL]; have := HSZ3.out; omega
          . by_cases hq2 : q = [46, 46]
            . have p1 : (q == [46]) = false := by simpa using hq1
              have p2 : (q == [46, 46]) = true := by rw [hq2]; rfl
              have PB : Hid (partB q = [4, 0]) := by unfold Hid partB; rw [if_neg hq1, if_pos hq2]
              go_wp2_with (at_builtin; refine asList rfl fun K hK => ?_; go_must (refine go_appB (w0 := w) (.tmp 55) (.tmp 56) rfl w.heap.size _ _ _ BB [4, 0] rfl (hOc.later ((Below.refl _ _).alloc (Nat.le_refl _) _)) rfl (rd_litN wc [4, 0] (by decide) wc.heap.size rfl) (by rw [HM.out]; simp; omega) (hbc.alloc hbc.size _) (Nat.le_refl _) ?_); rintro A5 c5 w5 L5 hL5 hl5 hl5' ho5 hb5 hg5; refine hK _ _ ?_; clear hK K)
              have LL : Hid (L5 = BB ++ [4, 0]) := hL5
              have HO5 := Lib.hid ho5
              clear p1 p2 hq1 hq2 hOc hbc hg5 hl5 hl5' hL5 ho5
              go_roundw
              case rel => exact ⟨t + 1, _, _, _, ofL (joinP (E.drop (t + 1))), hlt, rfl, rfl, by rw [size_ofL]; have := HSZ3.out; omega, rfl, rfl, rfl, by unfold Hid; rw [hstep.out, PB.out, <- LL.out], by rw [hstep.out, PB.out, <- LL.out]; exact HO5.out, hb5⟩
              case measure => show (ofL (joinP (E.drop (t + 1)))).size < nm.size; rw [size_ofL]; have := HSZ3.out; omega
            . have p1 : (q == [46]) = false := by simpa using hq1
              have p2 : (q == [46, 46]) = false := by simpa using hq2
              have PB : Hid (partB q = [0, u8 q.length] ++ q) := by unfold Hid partB; rw [if_neg hq1, if_neg hq2]; rfl
              have HE := Lib.hid (sl_head q.length (by rw [HK.out]; omega))
              have hql : q.length <= 100 := by rw [HK.out]; exact hk2
              go_upto_region 16 with (at_builtin; go_must (rw [HE.out]); refine asList rfl fun K hK => ?_; go_must (refine go_appB (w0 := w) (.tmp 37) (.tmp 41) rfl w.heap.size _ _ _ BB [0, u8 q.length] rfl (hOc.later ((Below.refl _ _).alloc (Nat.le_refl _) _)) rfl (rd_litN wc [0, u8 q.length] (by simp) wc.heap.size rfl) (by rw [HM.out]; simp; omega) (hbc.alloc hbc.size _) (Nat.le_refl _) ?_); rintro A4 c4 w4 L4 hL4 hl4 hl4' ho4 hb4 hg4; refine hK _ _ ?_; clear hK K)
              have hl4b : L4.length <= 605 := by rw [HM.out] at hl4; simp at hl4; omega
              clear hg4 hl4 hl4' p1 p2 hOc hbc
              go_wp2_with (at_builtin; refine asList rfl fun K hK => ?_; go_must (refine go_appS (w0 := w) (.tmp 43) (.tmp 44) rfl w.heap.size _ L4 (ofL q) rfl ho4 rfl (by rw [size_ofL]; omega) hb4 (Nat.le_refl _) ?_); rintro A5 c5 w5 L5 hL5 hl5 hl5' ho5 hb5 hg5; refine hK _ _ ?_; clear hK K)
              have LL : Hid (L5 = BB ++ ([0, u8 q.length] ++ q)) := by unfold Hid; rw [hL5.out, hL4.out, List.append_assoc]
              have HO5 := Lib.hid ho5
              clear hq1 hq2 hg5 hl5 hl5' hL5 ho5 ho4 hL4
              go_roundw
              case rel => exact ⟨t + 1, _, _, _, ofL (joinP (E.drop (t + 1))), hlt, rfl, rfl, by rw [size_ofL]; have := HSZ3.out; omega, rfl, rfl, rfl, by unfold Hid; rw [hstep.out, PB.out, <- LL.out], by rw [hstep.out, PB.out, <- LL.out]; exact HO5.out, hb5⟩
              case measure => show (ofL (joinP (E.drop (t + 1)))).size < nm.size; rw [size_ofL]; have := HSZ3.out; omega
   . have hte : t = E.length := by omega
     have hne0 : nm.toList.isEmpty = true := by
      rw [Lib.toList_data, hnm.out, List.drop_eq_nil_of_le (by omega)]; rfl
     have htE : E.take t = E := List.take_of_length_le (by omega)
     rw [htE, HPC.out] at hO hm
     have hm2 : C.length + 1 = m := by have := hm.out; simpa using this
     have hm603 : m <= 603 := by have := (HCM t).out; rw [htE, HPC.out] at this; simp at this; omega
     have HO := Lib.hid hO; have HM := Lib.hid hm2
     clear hnm hns htE hm hm2 hO hlt ht hte
     go_wp2_with (first
      | (go_at_call 51; go_must (refine (suspW_of 83 76 A' c' m (0 :: C) wr (by rw [List.length_cons]; exact HM.out.symm) (by omega) HO.out.rd).mono ?_); rintro e w5 ⟨⟨v5, rfl, ho5⟩, hx5⟩; obtain ⟨A5, c5, rfl, _, _⟩ := ho5.shape))
     go_ret2
     refine ⟨⟨A5, _, c5, ?_, rfl, ho5.lower hb.size⟩, hb.trans (hx5.mono hb.size)⟩
     have e : decide ((m : Int) <= 240) = decide (C.length <= 239) := by
      have := HM.out
      rw [decide_eq_decide]; omega
     first | rfl | (rw [<- e]; rfl) | (simp [e])
theorem out_node {ms : List Node} {i : Nat} (h : ms.length <= i) : nodeAt ms i = rootNode := by
 simp only [nodeAt, List.getD_eq_getElem?_getD, List.getElem?_eq_none h]; rfl
structure Sim (ns ks : List Node) : Prop where
 len : ks.length = ns.length
 f : ∀ i, (nodeAt ks i).f = (nodeAt ns i).f
 id : ∀ i, (nodeAt ks i).id = (nodeAt ns i).id
 par : ∀ i, parOf ks i = parOf ns i
 kids : ∀ i, kidsOf ks i = kidsOf ns i
theorem Sim.dir {ns ks : List Node} (h : Sim ns ks) (i : Nat) : dirOf ks i = dirOf ns i := congrArg File.dir (h.f i)
structure AreaOk (ks : List Node) (area : Nat) : Prop where
 er : (nodeAt ks 0).place + 157 <= area
 one : ∀ i, 0 < i -> i < ks.length -> (nodeAt ks i).more ≠ [] -> (nodeAt ks i).place + (nodeAt ks i).more.length <= (nodeAt ks 0).place
 two : ∀ i j, 0 < i -> i < j -> j < ks.length -> (nodeAt ks i).more ≠ [] -> (nodeAt ks j).more ≠ [] -> (nodeAt ks i).place + (nodeAt ks i).more.length <= (nodeAt ks j).place
structure Rocked (ns ms : List Node) (area : Nat) : Prop where
 len : ms.length = ns.length
 node : ∀ i, ∃ su mo pl, nodeAt ms i = { nodeAt ns i with su := su, more := mo, place := pl }
 su0 : (nodeAt ms 0).su = suF (nodeAt ns 0).f /\ (nodeAt ms 0).more = []
 su : ∀ i, 0 < i -> i < ns.length -> ((nodeAt ms i).su = suF (nodeAt ns i).f ++ restF (nodeAt ns i).f /\ (nodeAt ms i).more = [] /\ 62 + (restF (nodeAt ns i).f).length <= 160) \/ ((nodeAt ms i).su = suF (nodeAt ns i).f /\ (nodeAt ms i).more = restF (nodeAt ns i).f /\ (nodeAt ms i).place % 2048 + (restF (nodeAt ns i).f).length <= 2048)
 keep : ∀ i, 0 < i -> i < ns.length -> (nodeAt ms i).more = [] -> (nodeAt ms i).place = (nodeAt ns i).place
 sec : (nodeAt ms 0).place % 2048 + 157 <= 2048
 ok : AreaOk ms area
 bd : area <= ns.length * 2448 + 2205
theorem rocked_of (ns : List Node) (h0 : 0 < ns.length) (hm : ∀ n ∈ ns, n.more = []) (hr : ∀ n ∈ ns, (restF n.f).length <= 400) (hp : ∀ n ∈ ns, restF n.f ≠ []) : Rocked ns (rockAll ns).1 (rockAll ns).2 := by
 have hr2 : ∀ n ∈ ns, (restF n.f).length <= 2048 := fun n hn => by have := hr n hn; omega
 have hin : ∀ i, i < ns.length -> nodeAt ns i ∈ ns := fun i hi => by
  have : nodeAt ns i = ns[i] := by simp [nodeAt, List.getD_eq_getElem?_getD, List.getElem?_eq_getElem hi]
  rw [this]; exact List.getElem_mem hi
 have hget : ∀ i (hi : i < ns.length), ns[i] = nodeAt ns i := fun i hi => by simp [nodeAt, List.getD_eq_getElem?_getD, List.getElem?_eq_getElem hi]
 have hz := rockAll_zero ns h0
 have hl := rockAll_len ns
 have hA := areaTo_bd ns hr ns.length (Nat.le_refl _)
 have hA2 := rockAt_bd (areaTo ns ns.length) 157 (by decide)
 have hsucc := areaTo_succ ns
 have hmono := areaTo_mono ns hr2
 have e2 : (rockAll ns).2 = rockAt (areaTo ns ns.length) 157 + 157 := by unfold rockAll; simp only; rw [areaTo_all]
 have hcase : ∀ i, 0 < i -> i < ns.length -> (62 + (restF (nodeAt ns i).f).length <= 160 /\ nodeAt (rockAll ns).1 i = { nodeAt ns i with su := suF (nodeAt ns i).f ++ restF (nodeAt ns i).f } /\ areaTo ns (i + 1) = areaTo ns i) \/
  (nodeAt (rockAll ns).1 i = { nodeAt ns i with su := suF (nodeAt ns i).f, more := restF (nodeAt ns i).f, place := rockAt (areaTo ns i) (restF (nodeAt ns i).f).length } /\ areaTo ns (i + 1) = rockAt (areaTo ns i) (restF (nodeAt ns i).f).length + (restF (nodeAt ns i).f).length) := by
  intro i hi0 hi
  have h1 := rockAll_at ns i hi0 hi
  have h2 := hsucc i hi
  rw [hget i hi] at h2
  unfold rockN at h1 h2
  rw [if_neg (by omega)] at h1 h2
  split at h1
  . next h =>
    rw [if_pos h] at h2
    rw [suF_len] at h
    exact .inl ⟨h, h1, h2⟩
  . next h =>
    rw [if_neg h] at h2
    exact .inr ⟨h1, h2⟩
 have hmore : ∀ i, 0 < i -> i < ns.length -> (nodeAt (rockAll ns).1 i).more ≠ [] -> (nodeAt (rockAll ns).1 i).place = rockAt (areaTo ns i) (restF (nodeAt ns i).f).length /\ (nodeAt (rockAll ns).1 i).more = restF (nodeAt ns i).f /\ areaTo ns (i + 1) = rockAt (areaTo ns i) (restF (nodeAt ns i).f).length + (restF (nodeAt ns i).f).length := by
  intro i hi0 hi hne
  rcases hcase i hi0 hi with ⟨_, e, _⟩ | ⟨e, e'⟩
  . rw [e] at hne; exact absurd (hm _ (hin i hi)) hne
  . rw [e]; exact ⟨rfl, rfl, e'⟩
 refine ⟨hl, fun i => ?_, ?_, fun i hi0 hi => ?_, fun i hi0 hi he => ?_, ?_, ⟨?_, ?_, ?_⟩, ?_⟩
 . by_cases hi : i < ns.length
   . rcases Nat.eq_zero_or_pos i with rfl | hi0
     . exact ⟨_, _, _, hz⟩
     . rcases hcase i hi0 hi with ⟨_, e, _⟩ | ⟨e, _⟩
       . exact ⟨_, _, _, e⟩
       . exact ⟨_, _, _, e⟩
   . rw [out_node (ms := (rockAll ns).1) (by omega), out_node (ms := ns) (by omega)]
     exact ⟨_, _, _, rfl⟩
 . rw [hz]; exact ⟨rfl, hm (nodeAt ns 0) (hin 0 h0)⟩
 . rcases hcase i hi0 hi with ⟨h, e, _⟩ | ⟨e, _⟩
   . rw [e]; exact .inl ⟨rfl, hm (nodeAt ns i) (hin i hi), h⟩
   . rw [e]; exact .inr ⟨rfl, rfl, (rockAt_bd _ _ (hr2 _ (hin i hi))).2.2⟩
 . rcases hcase i hi0 hi with ⟨h, e, _⟩ | ⟨e, _⟩
   . rw [e]
   . rw [e] at he; exact absurd he (hp _ (hin i hi))
 . rw [hz]; exact hA2.2.2
 . rw [hz, e2]; exact Nat.le_refl _
 . intro i hi0 hi hne
   rw [hl] at hi
   obtain ⟨a, b, d⟩ := hmore i hi0 hi hne
   rw [a, b, hz]
   have := hmono (i + 1) ns.length (by omega) (Nat.le_refl _)
   simp only; omega
 . intro i j hi0 hij hj hi hjm
   rw [hl] at hj
   obtain ⟨a, b, d⟩ := hmore i hi0 (by omega) hi
   obtain ⟨a', b', d'⟩ := hmore j (by omega) hj hjm
   rw [a, b, a']
   have := hmono (i + 1) j (by omega) (by omega)
   have := rockAt_bd (areaTo ns j) _ (hr2 _ (hin j hj))
   omega
 . rw [e2]; omega
theorem Rocked.sim {ns ms : List Node} {area : Nat} (h : Rocked ns ms area) : Sim ns ms := by
 have hn := h.node
 refine ⟨h.len, fun i => ?_, fun i => ?_, fun i => ?_, fun i => ?_⟩
 . obtain ⟨a, b, c, e⟩ := hn i; rw [e]
 . obtain ⟨a, b, c, e⟩ := hn i; rw [e]
 . obtain ⟨a, b, c, e⟩ := hn i
   show (nodeAt ms i).parent = (nodeAt ns i).parent; rw [e]
 . obtain ⟨a, b, c, e⟩ := hn i
   show (nodeAt ms i).kids = (nodeAt ns i).kids; rw [e]
theorem Sim.tree {ns ms : List Node} (h : Sim ns ms) (ht : Tree ns) : Tree ms :=
 ⟨by rw [h.len]; exact ht.pos, fun i hi k hk => by rw [h.kids] at hk; rw [h.len] at hi ⊢; exact ht.lt i hi k hk, fun i hi k hk => by rw [h.kids] at hk; rw [h.len] at hi; rw [h.par]; exact ht.par i hi k hk, fun i hi => by rw [h.len] at hi; rw [h.kids]; exact ht.nodup i hi⟩
theorem Sim.bq {ns ms : List Node} {out : List Nat} {i j : Nat} (h : Sim ns ms) (hq : BQ ms out i j) : BQ ns out i j :=
 ⟨hq.ilt, hq.head, fun x hx => by rw [<- h.len]; exact hq.lt x hx, fun x hx => by rw [<- h.dir]; exact hq.dir x hx, hq.nodup, fun x hx => by have := hq.par x hx; rw [h.par, h.kids] at this; exact this, fun t k ht hk hd => by rw [<- h.dir] at hd; rw [<- h.kids] at hk; exact hq.done t k ht hk hd⟩
structure Placed (ks : List Node) (c : Nat -> Nat) (nx0 more bA next : Nat) : Prop where
 at' : ∀ i, i < ks.length -> nx0 <= (nodeAt ks i).extent /\ (nodeAt ks i).size = c i /\ (nodeAt ks i).extent + blocks (c i) <= next /\ ((nodeAt ks i).extent + blocks (c i) <= more \/ more + bA <= (nodeAt ks i).extent)
 apart : ∀ i j, i < ks.length -> j < ks.length -> i ≠ j -> (nodeAt ks i).extent + blocks (c i) <= (nodeAt ks j).extent \/ (nodeAt ks j).extent + blocks (c j) <= (nodeAt ks i).extent
 lo : nx0 <= more
 hi : more + bA <= next
theorem placed_of (c : Nat -> Nat) (ns ms ks : List Node) (nx0 more bA next : Nat) (ds fl : List Nat) (h1 : extC c ns nx0 ds = (ms, more)) (h2 : extC c ms (more + bA) fl = (ks, next)) (hn : (ds ++ fl).Nodup) (hm : ∀ i, i ∈ ds ++ fl ↔ i < ns.length) : Placed ks c nx0 more bA next := by
 rw [List.nodup_append] at hn
 obtain ⟨n1, n2, n3⟩ := hn
 have l1 := (extC_like c ns nx0 ds).len
 have l2 := (extC_like c ms (more + bA) fl).len
 have e1 := extC_le c ns nx0 ds
 have e2 := extC_le c ms (more + bA) fl
 rw [h1] at l1 e1
 rw [h2] at l2 e2
 simp only at l1 l2 e1 e2
 have hd : ∀ i ∈ ds, nx0 <= (nodeAt ks i).extent /\ (nodeAt ks i).size = c i /\ (nodeAt ks i).extent + blocks (c i) <= more := by
  intro i hi
  have a := extC_at c ns nx0 ds n1 (fun j hj => (hm j).1 (by simp [hj])) i hi
  have b := extC_other c ms (more + bA) fl i (fun h => n3 i hi i h rfl)
  rw [h1] at a
  rw [h2] at b
  simp only at a b
  rw [b]; exact a
 have hf : ∀ i ∈ fl, more + bA <= (nodeAt ks i).extent /\ (nodeAt ks i).size = c i /\ (nodeAt ks i).extent + blocks (c i) <= next := by
  intro i hi
  have a := extC_at c ms (more + bA) fl n2 (fun j hj => by rw [l1]; exact (hm j).1 (by simp [hj])) i hi
  rw [h2] at a
  exact a
 have hw : ∀ i, i < ks.length -> i ∈ ds \/ i ∈ fl := fun i hi => List.mem_append.1 ((hm i).2 (by omega))
 refine ⟨fun i hi => ?_, fun i j hi hj hij => ?_, e1, e2⟩
 . rcases hw i hi with h | h
   . have := hd i h; exact ⟨this.1, this.2.1, by omega, .inl this.2.2⟩
   . have := hf i h; exact ⟨by omega, this.2.1, this.2.2, .inr this.1⟩
 . rcases hw i hi with h | h <;> rcases hw j hj with h' | h'
   . have a := extC_apart c ns nx0 ds n1 (fun j hj => (hm j).1 (by simp [hj])) i j h h' hij
     have b := extC_other c ms (more + bA) fl i (fun x => n3 i h i x rfl)
     have b' := extC_other c ms (more + bA) fl j (fun x => n3 j h' j x rfl)
     rw [h1] at a
     rw [h2] at b b'
     simp only at a b b'
     rw [b, b']; exact a
   . have := hd i h; have := hf j h'; omega
   . have := hf i h; have := hd j h'; omega
   . have a := extC_apart c ms (more + bA) fl n2 (fun j hj => by rw [l1]; exact (hm j).1 (by simp [hj])) i j h h' hij
     rw [h2] at a
     exact a
def Fits (f : File) : Prop := f.target.data.toList ≠ [] -> (compsB (linkComps f.target.data.toList)).length <= 239
structure RkF (x : XNode) : Prop where
 su : x.su = []
 more : x.more = []
 path : x.f.path.size <= 1000
 name : (cutLast x.f.p).2.length <= 200
 ts : x.f.target.size <= 200
 link : LinkG x.f.target.data.toList
 uid : x.f.uid < 4294967296
 gid : x.f.gid < 4294967296
 perm : x.f.perm < 4294967296
 t0 : -9223372036854775808 <= x.f.time
 t1 : x.f.time <= 9223372036854775807
 rest : Fits x.f -> (restF x.f).length <= 400
theorem suF_eq (f : File) : suF f = pxB f (if f.dir then 2 else 1) ++ tfB f.time := by
 unfold suF suItems itemsB
 rw [List.flatMap_cons, List.flatMap_cons, List.flatMap_nil, List.append_nil]; rfl
theorem restF_nil (f : File) (h : f.target.data.toList = []) : restF f = nmB (cutLast f.p).2 := by
 unfold restF restItems itemsB
 rw [if_pos h, List.flatMap_cons, List.flatMap_nil, List.append_nil]; rfl
theorem restF_link (f : File) (h : f.target.data.toList ≠ []) : restF f = nmB (cutLast f.p).2 ++ (Item.sl (linkComps f.target.data.toList)).bytes := by
 unfold restF restItems itemsB
 rw [if_neg h, List.flatMap_cons, List.flatMap_cons, List.flatMap_nil, List.append_nil]; rfl
theorem rock_step (ns : List Node) (t : Nat) (ht : t < ns.length) (zs : List Node) (h : zs = (rockGo (ns.take t) 0 0).1 ++ ns.drop t) (y : Node) (a' : Nat) (hy : rockN ns[t] t (rockGo (ns.take t) 0 0).2 = (y, a')) :
 zs.set t y = (rockGo (ns.take (t + 1)) 0 0).1 ++ ns.drop (t + 1) /\ a' = (rockGo (ns.take (t + 1)) 0 0).2 := by
 have hl : (ns.take t).length = t := by rw [List.length_take]; omega
 have e : rockGo (ns.take (t + 1)) 0 0 = ((rockGo (ns.take t) 0 0).1 ++ [y], a') := by
  rw [<- List.take_append_getElem ht, rockGo_snoc, hl, Nat.zero_add, hy]
 rw [e, h]
 refine ⟨?_, rfl⟩
 have hl2 : (rockGo (ns.take t) 0 0).1.length = t := by rw [rockGo_len, hl]
 rw [List.drop_eq_getElem_cons ht, List.set_append_right _ _ (by omega), hl2, Nat.sub_self, List.set_cons_zero]
 simp
theorem isoRock_any (B g c n : Nat) (xs : List XNode) (w : World) (hN : NodesW w B (.slice (some ⟨g, 0, none⟩) n c) xs) (hn : n = xs.length) (hl : n <= 100) (hB : B <= w.heap.size) (hx : ∀ x ∈ xs, RkF x) :
 Calls Tryz.prog 28 #[.slice (some ⟨g, 0, none⟩) n c] w fun e w' => Below B w w' /\ ((∃ zs area, e = .returned (.tuple #[.int .u32 (area : Nat), .bool true]) /\ NodesW w' B (.slice (some ⟨g, 0, none⟩) n c) zs /\ rockGo (XNode.ns xs) 0 0 = (XNode.ns zs, area) /\ ∀ i, 0 < i -> i < n -> Fits (nodeAt (XNode.ns xs) i).f) \/ (e = .returned (.tuple #[.int .u32 0, .bool false]) /\ ∃ x ∈ xs, ¬ Fits x.f)) := by
 have HN := Lib.hid hN; have HNL := Lib.hid hn; have HX := Lib.hid hx
 clear hN hn hx
 go_enter Tryz.func28, Tryz.ntmps28
 go_wp2_with (fail)
 go_loopw [2, 3, 4, 5, 6, 7, 8, 9, 10, 11, 14] (fun av rv _ _ _ _ _ _ _ _ iv wr => ∃ (t area : Nat) (zs : List XNode), t <= n /\ iv = .int .i64 t /\ av = .int .u32 area /\ rv = .bool false /\ Hid (NodesW wr B (.slice (some ⟨g, 0, none⟩) n c) zs) /\ zs.length = n /\ Hid (XNode.ns zs = (rockGo ((XNode.ns xs).take t) 0 0).1 ++ (XNode.ns xs).drop t) /\ Hid (area = (rockGo ((XNode.ns xs).take t) 0 0).2) /\ area <= t * 2448 /\ Hid (∀ i, 0 < i -> i < t -> Fits (nodeAt (XNode.ns xs) i).f) /\ Below B w wr) (fun _ _ _ _ _ _ _ _ _ _ iv _ => n - (intOf iv).toNat)
 case atStart => exact ⟨0, 0, xs, Nat.zero_le _, rfl, rfl, rfl, HN, HNL.out.symm, by simp [Hid, rockGo], by simp [Hid, rockGo], Nat.zero_le _, by intro i h1 h2; omega, Below.refl _ _⟩
 case round =>
  obtain ⟨t, area, zs, ht, rfl, rfl, rfl, hNz, hzl, hns, har, hab, hfits, hb⟩ := hrel
  by_cases hlt : t < n
  . have htz : t < zs.length := by omega
    obtain ⟨x, hx⟩ : ∃ x, zs[t] = x := ⟨_, rfl⟩
    have T0 := NodeT.start hNz.out hzl.symm htz
    rw [hx] at T0
    have htx : t < xs.length := by rw [<- HNL.out]; exact hlt
    have hxn : x.toNode = xs[t].toNode := by
     have h1 : (XNode.ns zs)[t]? = ((rockGo ((XNode.ns xs).take t) 0 0).1 ++ (XNode.ns xs).drop t)[t]? := by rw [hns.out]
     have hl1 : (rockGo ((XNode.ns xs).take t) 0 0).1.length = t := by rw [rockGo_len, List.length_take]; simp [XNode.ns]; omega
     rw [List.getElem?_append_right (by omega), hl1, Nat.sub_self, List.getElem?_drop, Nat.add_zero] at h1
     simp only [XNode.ns, List.getElem?_map, List.getElem?_eq_getElem htz, List.getElem?_eq_getElem htx, Option.map_some, hx] at h1
     exact Option.some.inj h1
    have hxf : x.f = xs[t].f := congrArg Node.f hxn
    have hRk := HX.out _ (List.getElem_mem htx)
    have hsu : x.su = [] := (congrArg Node.su hxn).trans hRk.su
    have hmo : x.more = [] := (congrArg Node.more hxn).trans hRk.more
    obtain ⟨f, hf⟩ : ∃ f, x.f = f := ⟨_, rfl⟩
    have HF := Lib.hid hf
    have HRK := Lib.hid hRk; have HXN := Lib.hid hxn; have HXF : Hid (xs[t].f = f) := by unfold Hid; rw [<- hxf, hf]
    have c1 := T0.cell htz 1 _ rfl
    rw [hf] at c1
    have hgl := T0.lt
    have hwl : wr.heap.size <= wr.heap.size := Nat.le_refl _
    have HT0 := Lib.hid T0; have HHX := Lib.hid hx; have HSU := Lib.hid hsu; have HMO := Lib.hid hmo
    have hf0 := T0.frozen (by omega)
    have HFZ := Lib.hid hf0
    clear hx hxn hxf hRk hsu hmo hf T0 hf0
    have hlk : ∃ lk : Nat, Hid (lk = if f.dir then 2 else 1) /\ ((f.dir = true /\ lk = 2) \/ (f.dir = false /\ lk = 1)) := by
     cases h : f.dir
     . exact ⟨1, rfl, .inr ⟨rfl, rfl⟩⟩
     . exact ⟨2, rfl, .inl ⟨rfl, rfl⟩⟩
    obtain ⟨lk, HLK, hlk⟩ := hlk
    rcases hlk with ⟨hd, hlk⟩ | ⟨hd, hlk⟩
    all_goals
     rw [hd] at c1
     have HD := Lib.hid hd
     clear hd
     go_upto_region 8 with (fail)
     have c7 : wr.cell? ⟨g, t * 18 + 7, none⟩ = some (.int .i64 f.time) := by rw [<- HF.out]; exact HT0.out.cell htz 7 _ rfl
     have hrange : wr.drew.rangeAt g (t * 18) x.cells := HT0.out.range htz
     have hRF : x.f.uid < 4294967296 /\ x.f.gid < 4294967296 /\ x.f.perm < 4294967296 := by rw [HF.out, <- HXF.out]; exact ⟨HRK.out.uid, HRK.out.gid, HRK.out.perm⟩
     have ht01 : -9223372036854775808 <= f.time /\ f.time <= 9223372036854775807 := by rw [<- HXF.out]; exact ⟨HRK.out.t0, HRK.out.t1⟩
     first
      | rw [show (Value.int IntKind.u32 2) = Value.int IntKind.u32 (lk : Nat) from by rw [hlk]; rfl]
      | rw [show (Value.int IntKind.u32 1) = Value.int IntKind.u32 (lk : Nat) from by rw [hlk]; rfl]
     have hlk3 : lk < 4294967296 := by rw [hlk]; decide
     clear hlk
     have hpl : (pxB x.f lk).length = 36 := by unfold pxB; rw [suspB_len, manyB_len]; rfl
     have htl : (tfB f.time).length = 26 := by unfold tfB; rw [suspB_len, tfBody_len]
     have u64 := under64
     refine wp_region_held_drew (S := fun W => W.cell? ⟨g, t * 18 + 7, none⟩ = some (.int .i64 f.time)) (by kernel_rfl) (by exact c7) (fun hHeld => ?_)
     refine wpAnyH_take (i := 0) (v := (.pointer (some ⟨g, t * 18, none⟩))) (rfl : _ = some (Oper.mk _ _ _ _ _ _)) (by kernel_rfl) (by kernel_rfl) (by kernel_rfl) (fun _ _ _ h => h) (Or.inl ⟨by rfl, fun W hW => ?_⟩) (by assumption) ?_
     . first | (go_simp; done) | (simp [execOp]; done)
     try simp only [Act.put, List.setIfInBounds_toArray, List.set_cons_zero, List.set_cons_succ]
     refine wpAnyH_take (i := 1) (v := (.pointer (some ⟨g, t * 18, none⟩))) (rfl : _ = some (Oper.mk _ _ _ _ _ _)) (by kernel_rfl) (by kernel_rfl) (by kernel_rfl) (fun _ _ _ h => h) (Or.inl ⟨by rfl, fun W hW => ?_⟩) (by assumption) ?_
     . first | (go_simp; done) | (simp [execOp]; done)
     try simp only [Act.put, List.setIfInBounds_toArray, List.set_cons_zero, List.set_cons_succ]
     refine wpAnyH_take (i := 2) (v := (.pointer (some ⟨g, t * 18, none⟩))) (rfl : _ = some (Oper.mk _ _ _ _ _ _)) (by kernel_rfl) (by kernel_rfl) (by kernel_rfl) (fun _ _ _ h => h) (Or.inl ⟨by rfl, fun W hW => ?_⟩) (by assumption) ?_
     . first | (go_simp; done) | (simp [execOp]; done)
     try simp only [Act.put, List.setIfInBounds_toArray, List.set_cons_zero, List.set_cons_succ]
     refine wpAnyH_take (i := 4) (v := (.int .u32 lk)) (rfl : _ = some (Oper.mk _ _ _ _ _ _)) (by kernel_rfl) (by kernel_rfl) (by kernel_rfl) (fun _ _ _ h => h) (Or.inl ⟨by rfl, fun W hW => ?_⟩) (by assumption) ?_
     . first | (go_simp; done) | (simp [execOp]; done)
     try simp only [Act.put, List.setIfInBounds_toArray, List.set_cons_zero, List.set_cons_succ]
     refine wpAnyH_take (i := 6) (v := (.pointer (some ⟨g, t * 18, none⟩))) (rfl : _ = some (Oper.mk _ _ _ _ _ _)) (by kernel_rfl) (by kernel_rfl) (by kernel_rfl) (fun _ _ _ h => h) (Or.inl ⟨by rfl, fun W hW => ?_⟩) (by assumption) ?_
     . first | (go_simp; done) | (simp [execOp]; done)
     try simp only [Act.put, List.setIfInBounds_toArray, List.set_cons_zero, List.set_cons_succ]
     refine wpAnyH_take (i := 7) (v := (.pointer (some ⟨g, t * 18, none⟩))) (rfl : _ = some (Oper.mk _ _ _ _ _ _)) (by kernel_rfl) (by kernel_rfl) (by kernel_rfl) (fun _ _ _ h => h) (Or.inl ⟨by rfl, fun W hW => ?_⟩) (by assumption) ?_
     . first | (go_simp; done) | (simp [execOp]; done)
     try simp only [Act.put, List.setIfInBounds_toArray, List.set_cons_zero, List.set_cons_succ]
     refine wpAnyH_take (i := 8) (v := (.pointer (some ⟨g, t * 18, none⟩))) (rfl : _ = some (Oper.mk _ _ _ _ _ _)) (by kernel_rfl) (by kernel_rfl) (by kernel_rfl) (fun _ _ _ h => h) (Or.inl ⟨by rfl, fun W hW => ?_⟩) (by assumption) ?_
     . first | (go_simp; done) | (simp [execOp]; done)
     try simp only [Act.put, List.setIfInBounds_toArray, List.set_cons_zero, List.set_cons_succ]
     refine wpAnyH_take (i := 9) (v := (.pointer (some ⟨g, t * 18 + 7, none⟩))) (rfl : _ = some (Oper.mk _ _ _ _ _ _)) (by kernel_rfl) (by kernel_rfl) (by kernel_rfl) (fun _ _ _ h => h) (Or.inl ⟨by rfl, fun W hW => ?_⟩) (by assumption) ?_
     . first | (go_simp; done) | (simp [execOp]; done)
     try simp only [Act.put, List.setIfInBounds_toArray, List.set_cons_zero, List.set_cons_succ]
     refine wpAnyH_take (i := 10) (v := (.int .i64 f.time)) (rfl : _ = some (Oper.mk _ _ _ _ _ _)) (by kernel_rfl) (by kernel_rfl) (by kernel_rfl) (fun _ _ _ h => h) (Or.inl ⟨by rfl, fun W hW => ?_⟩) (by assumption) ?_
     . first | (go_simp; done) | (have hW' : W.cell? ⟨g, t * 18 + 7, none⟩ = some (.int .i64 f.time) := hW; simp [execOp, hW']; done)
     try simp only [Act.put, List.setIfInBounds_toArray, List.set_cons_zero, List.set_cons_succ]
     refine wpAnyH_ready (rs := [3]) (by kernel_rfl) (by simp) ?_
     refine AllReadyH.cons (rfl : _ = some (Oper.mk _ _ _ _ _ _)) (fun K hKK => ?_) AllReadyH.nil
     rw [if_pos (by rfl)]
     refine wp_load_mid 64 _ rfl g (t * 18) rfl x.cells _ hrange u64.choose_spec.1 u64.choose_spec.2 info64 ?_
     refine hKK.out _ _ (by exact c7) (fun hHeld' => ?_)
     clear hKK K hHeld
     have hHeld := hHeld'
     clear hHeld'
     try simp only [Act.put, List.setIfInBounds_toArray, List.set_cons_zero, List.set_cons_succ]
     refine wpAnyH_ready (rs := [5]) (by kernel_rfl) (by simp) ?_
     refine AllReadyH.cons (rfl : _ = some (Oper.mk _ _ _ _ _ _)) (fun K hKK => ?_) AllReadyH.nil
     rw [if_pos (by rfl)]
     go_simp
     refine (rockPX_any x lk wr.drew hlk3 hRF.1 hRF.2.1 hRF.2.2).mono ?_
     rintro e w1 ⟨⟨v1, rfl, ho1⟩, hx1⟩
     have hb1 : Below wr.heap.size wr w1 := (Below.refl _ _).drew.trans hx1
     go_wp2_with fail
     refine hKK.out _ _ (by exact (hx1.cell (p := ⟨g, t * 18 + 7, none⟩) hgl.2).trans c7) (fun hHeld' => ?_)
     clear hKK K hHeld
     have hHeld := hHeld'
     clear hHeld'
     try simp only [Act.put, List.setIfInBounds_toArray, List.set_cons_zero, List.set_cons_succ]
     refine wpAnyH_ready (rs := [11]) (by kernel_rfl) (by simp) ?_
     refine AllReadyH.cons (rfl : _ = some (Oper.mk _ _ _ _ _ _)) (fun K hKK => ?_) AllReadyH.nil
     rw [if_pos (by rfl)]
     go_simp
     refine (rockTF_any f.time w1 ht01.1 ht01.2).mono ?_
     rintro e w2 ⟨⟨v2, rfl, ho2⟩, hx2⟩
     have hb2 : Below wr.heap.size wr w2 := hb1.trans (hx2.mono hb1.size)
     have ho1' := ho1.later hx2
     go_wp2_with fail
     refine hKK.out _ _ (by exact (hb2.cell (p := ⟨g, t * 18 + 7, none⟩) hgl.2).trans c7) (fun hHeld' => ?_)
     clear hKK K hHeld
     have hHeld := hHeld'
     clear hHeld'
     try simp only [Act.put, List.setIfInBounds_toArray, List.set_cons_zero, List.set_cons_succ]
     refine wpAnyH_ready (rs := [12]) (by kernel_rfl) (by simp) ?_
     refine AllReadyH.cons (rfl : _ = some (Oper.mk _ _ _ _ _ _)) (fun K hKK => ?_) AllReadyH.nil
     rw [if_pos (by rfl)]
     refine go_appB (w0 := wr) (.tmp 30) (.tmp 36) rfl wr.heap.size w2.heap.size v1 v2 (pxB x.f lk) (tfB f.time) rfl ho1' rfl ho2.rd (by rw [hpl, htl]; decide) hb2 (Nat.le_refl _) ?_
     rintro A3 c3 w3 L3 hL3 hl3 hl3' ho3 hb3 hg3
     have hLS : L3 = suF f := by rw [hL3.out, HF.out, HLK.out]; exact (suF_eq f).symm
     rw [hLS, suF_len] at ho3
     rw [hLS, suF_len]
     have T3 := HT0.out.later hb3
     have c13 := T3.cell htz 13 _ rfl
     have f13 := T3.frozen (by omega) (t * 18 + 13)
     refine hKK.out _ _ (by exact (hb3.cell (p := ⟨g, t * 18 + 7, none⟩) hgl.2).trans c7) (fun hHeld' => ?_)
     clear hKK K hHeld
     have hHeld := hHeld'
     clear hHeld'
     try simp only [Act.put, List.setIfInBounds_toArray, List.set_cons_zero, List.set_cons_succ]
     refine wpAnyH_take (i := 13) (v := (.pointer (some ⟨g, t * 18, none⟩))) (rfl : _ = some (Oper.mk _ _ _ _ _ _)) (by kernel_rfl) (by kernel_rfl) (by kernel_rfl) (fun _ _ _ h => h) (Or.inl ⟨by rfl, fun W hW => ?_⟩) (by assumption) ?_
     . first | (go_simp; done) | (simp [execOp]; done)
     try simp only [Act.put, List.setIfInBounds_toArray, List.set_cons_zero, List.set_cons_succ]
     refine wpAnyH_take (i := 14) (v := (.pointer (some ⟨g, t * 18 + 13, none⟩))) (rfl : _ = some (Oper.mk _ _ _ _ _ _)) (by kernel_rfl) (by kernel_rfl) (by kernel_rfl) (fun _ _ _ h => h) (Or.inl ⟨by rfl, fun W hW => ?_⟩) (by assumption) ?_
     . first | (go_simp; done) | (simp [execOp]; done)
     try simp only [Act.put, List.setIfInBounds_toArray, List.set_cons_zero, List.set_cons_succ]
     refine wpAnyH_ready (rs := [15]) (by kernel_rfl) (by simp) ?_
     refine AllReadyH.cons (rfl : _ = some (Oper.mk _ _ _ _ _ _)) (fun K hKK => ?_) AllReadyH.nil
     rw [if_pos (by rfl)]
     go_simp
     have c7' : (w3.setCell ⟨g, t * 18 + 13, none⟩ (.slice A3 62 c3)).cell? ⟨g, t * 18 + 7, none⟩ = some (.int .i64 f.time) := by rw [<- HF.out]; exact (T3.store hzl.symm htz 13 (by decide) (.slice A3 62 c3) { x with su := suF f, sa := A3, sc := c3 } (by simp [suF_len])).cell htz 7 _ rfl
     refine hKK.out _ _ (by exact c7') (fun hHeld' => ?_)
     clear hKK K hHeld
     have hHeld := hHeld'
     clear hHeld'
     try simp only [Act.put, List.setIfInBounds_toArray, List.set_cons_zero, List.set_cons_succ]
     refine wpAnyH_done (by kernel_rfl) ?_ _
     go_upto_region 9 with (fail)
     refine genH (F := fun W => NodeT W B g n c t wr.heap.size zs { x with su := suF f, sa := A3, sc := c3 } /\ Own W wr.heap.size (.slice A3 62 c3) (suF f) /\ Below B w W /\ wr.heap.size <= W.heap.size) ⟨T3.store hzl.symm htz 13 (by decide) (.slice A3 62 c3) { x with su := suF f, sa := A3, sc := c3 } (by simp [suF_len]), T3.own (t * 18 + 13) ho3 (by decide), (hb.trans (hb3.mono (Nat.le_trans hB hb.size))).setCell hgl.1 _, by simpa using hb3.size⟩ (fun w4 h4 => ?_)
     have HT4 := Lib.hid h4.1; have HO4 := Lib.hid h4.2.1; have hb4 := h4.2.2.1; have hs4 := h4.2.2.2
     clear h4 c13 f13 T3 ho3 hLS hg3 hl3 hl3' hL3 hb3 ho2 hx2 ho1 hx1 ho1' hb1 hb2 c7 hHeld hrange u64 c1
     obtain ⟨y4, hy4⟩ : ∃ y4 : XNode, y4 = { x with su := suF f, sa := A3, sc := c3 } := ⟨_, rfl⟩
     rw [<- hy4] at HT4
     have HY4 := Lib.hid hy4
     have HNT : Hid ((XNode.ns xs)[t]'(by simpa [XNode.ns] using htx) = xs[t].toNode) := by unfold Hid; simp [XNode.ns]
     have hnm : (cutLast f.p).2.length <= 200 := by rw [<- HXF.out]; exact HRK.out.name
     have hpsz : f.path.size <= 1000 := by rw [<- HXF.out]; exact HRK.out.path
     have HSTEP := Lib.hid (fun y a' => rock_step (XNode.ns xs) t (by simpa [XNode.ns] using htx) (XNode.ns zs) hns.out y a')
     clear hy4
     by_cases ht0 : t = 0
     . have hti : ((t : Int) == 0) = true := by simp [ht0]
       have hm0 : Own w4 B (.slice x.ma x.more.length x.mc) x.more := by rw [<- HHX.out]; exact HT4.out.more _ (List.getElem_mem htz)
       have hfin := HT4.out.finish htz hzl.symm (by rw [HY4.out, HHX.out]) (by rw [HY4.out, HHX.out]) (by rw [HY4.out, HHX.out]) (by rw [HY4.out]; show Own w4 B (.slice A3 (suF f).length c3) (suF f); rw [suF_len]; exact HO4.out.lower (Nat.le_trans hB hb.size)) (by rw [HY4.out]; exact hm0)
       have HFIN := Lib.hid hfin
       have hst := HSTEP.out y4.toNode area (by
        unfold rockN; rw [if_pos ht0, HNT.out, <- har.out, HY4.out, <- HXN.out]
        have hfe := HF.out
        subst hfe
        rfl)
       have HST := Lib.hid hst
       have HT00 := Lib.hid ht0
       clear hfin hm0 hst ht0
       go_wp2_with (fail)
       go_roundw
       case rel => exact ⟨t + 1, area, zs.set t y4, hlt, by first | (simp; done) | (simp [HT00.out]; done), rfl, rfl, HFIN.out, by rw [List.length_set]; exact hzl, by unfold Hid; rw [<- HST.out.1]; simp [XNode.ns, List.map_set], HST.out.2, by omega, by intro i h1 h2; have := HT00.out; omega, hb4⟩
       case measure => simp [intOf]; omega
     . have hti : ((t : Int) == 0) = false := by simp; omega
       have p0 : w4.cell? ⟨g, t * 18, none⟩ = some (.string f.path) := by
        have := HT4.out.cell htz 0 (.string f.path) (by rw [HY4.out]; show some (Value.string x.f.path) = _; rw [HF.out])
        simpa using this
       go_upto_region 12 with (first
        | (go_at_call 49; go_must (refine (rockNM_any (ofL (cutLast f.path.data.toList).2) w5 (by rw [size_ofL]; exact hnm)).mono ?_); rintro e w6 ⟨⟨A6, c6, rfl, ho6⟩, hx6⟩)
        | (go_at_call 44; go_must (refine (base_any f.path w4 (by omega)).mono ?_); rintro e w5 ⟨rfl, hx5⟩))
       have hw6 : Below w4.heap.size w4 w6 := hx5.trans (hx6.mono hx5.size)
       have HT6 := Lib.hid (HT4.out.later hw6)
       have HO6 := Lib.hid (HO4.out.later hw6)
       have hb6 : Below B w w6 := hb4.trans (hw6.mono (Nat.le_trans hB hb4.size))
       have ho6' : Own w6 w4.heap.size (.slice A6 (nmB (cutLast f.p).2).length c6) (nmB (cutLast f.p).2) := ho6.lower hx5.size
       have HOR := Lib.hid ho6'
       have hnl : (nmB (cutLast f.p).2).length <= 205 := by unfold nmB; rw [suspB_len, List.length_cons]; have : (cutLast f.p).2.length <= 200 := hnm; omega
       have p3 : w6.cell? ⟨g, t * 18 + 3, none⟩ = some (.string f.target) := HT6.out.cell htz 3 (.string f.target) (by rw [HY4.out]; show some (Value.string x.f.target) = _; rw [HF.out])
       rw [show (nmB (ofL (cutLast f.path.data.toList).2).data.toList) = nmB (cutLast f.p).2 from rfl]
       clear p0 ho6 ho6' hx5 hx6
       have hti2 : t ≠ 0 := ht0
       by_cases htg : f.target.data.toList = []
       focus
        have e0 : f.target.toList.isEmpty = true := by rw [Lib.toList_data, htg]; rfl
        have hre : restF f = nmB (cutLast f.p).2 := restF_nil f htg
        have HFT : Hid (Fits f) := fun h => absurd htg h
        obtain ⟨q, hq⟩ : ∃ q, (restF f).length = q := ⟨_, rfl⟩
        have HNQ := Lib.hid hq
        have hq4 : q <= 400 := by rw [<- hq, <- HXF.out]; exact HRK.out.rest (by rw [HXF.out]; exact HFT.out)
        obtain ⟨A8, hA8⟩ : ∃ A8, A6 = A8 := ⟨_, rfl⟩
        obtain ⟨c8, hc8⟩ : ∃ c8, c6 = c8 := ⟨_, rfl⟩
        rw [<- hre, hq, hA8, hc8] at HOR
        rw [<- hre, hq, hA8, hc8]
        clear htg hq hA8 hc8 hre hnl
        go_upto_region 17 with (fail)
        refine genH (F := fun W => NodeT W B g n c t wr.heap.size zs y4 /\ Own W wr.heap.size (.slice A3 62 c3) (suF f) /\ Own W w4.heap.size (.slice A8 q c8) (restF f) /\ Below B w W /\ wr.heap.size <= W.heap.size) ⟨HT6.out, HO6.out, HOR.out, hb6, Nat.le_trans hs4 hw6.size⟩ (fun w8 h8 => ?_)
        have HT8 := Lib.hid h8.1; have HO8 := Lib.hid h8.2.1; have HR8 := Lib.hid h8.2.2.1; have hb8 := h8.2.2.2.1; have hs8 := h8.2.2.2.2
        clear h8
        clear e0 p3 hb6 HT6 HO6 HOR
        skip
       rotate_left
       focus
        have e0 : f.target.toList.isEmpty = false := by
         rw [Lib.toList_data]
         cases h : f.target.data.toList with
         | nil => exact absurd h htg
         | cons _ _ => rfl
        have hre := restF_link f htg
        have hlk1 : LinkG f.target.data.toList := by rw [<- HXF.out]; exact HRK.out.link
        have hts : f.target.size <= 200 := by rw [<- HXF.out]; exact HRK.out.ts
        have hfd : Hid (Fits f ↔ decide ((compsB (linkComps f.target.data.toList)).length <= 239) = true) := by
         unfold Hid Fits; rw [decide_eq_true_iff]; exact ⟨fun h => h htg, fun h _ => h⟩
        have H50 := Lib.hid (rockSL_any f.target w6 htg hlk1 hts)
        obtain ⟨fb, hfb⟩ : ∃ fb, decide ((compsB (linkComps f.target.data.toList)).length <= 239) = fb := ⟨_, rfl⟩
        rw [hfb] at hfd H50
        have HRE := Lib.hid hre
        clear htg hre hlk1 hts hfb
        go_upto_region 14 with (go_at_call 50; go_must (refine H50.out.mono ?_); rintro e w7 ⟨⟨A7, n7, c7, rfl, hn7, ho7⟩, hx7⟩)
        have HO7 := Lib.hid ho7; have HN7 := Lib.hid hn7
        have hw7 : Below w4.heap.size w4 w7 := hw6.trans (hx7.mono hw6.size)
        have HOR7 := Lib.hid (HOR.out.later hx7)
        clear e0 p3 ho7 hn7
        cases fb
        . go_wp2_with (fail)
          go_ret2
          exact ⟨hb6.trans (hx7.mono (Nat.le_trans hB hb6.size)), .inr ⟨rfl, xs[t], List.getElem_mem htx, by rw [HXF.out]; intro h; have := hfd.out.1 h; cases this⟩⟩
        have HFT : Hid (Fits f) := hfd.out.2 rfl
        obtain ⟨q, hq⟩ : ∃ q, (restF f).length = q := ⟨_, rfl⟩
        have HNQ := Lib.hid hq
        have hq4 : q <= 400 := by rw [<- hq, <- HXF.out]; exact HRK.out.rest (by rw [HXF.out]; exact HFT.out)
        have hn74 : n7 + (nmB (cutLast f.p).2).length <= 400 := by
         rw [HN7.out]; rw [HRE.out, List.length_append] at hq; omega
        clear hq
        go_upto_region 17 with (at_builtin; refine asList rfl fun K hK => ?_; go_must (refine go_appB (w0 := w4) (.tmp 70) (.tmp 71) rfl w4.heap.size w7.heap.size _ _ (nmB (cutLast f.p).2) (Item.sl (linkComps f.target.data.toList)).bytes rfl HOR7.out rfl HO7.out.rd (by rw [<- HN7.out]; omega) hw7 (Nat.le_refl _) ?_); rintro A8 c8 w8 L8 hL8 hl8 hl8' ho8 hw8 hg8; refine hK _ _ ?_; clear hK K)
        have hre8 : L8 = restF f := by rw [HRE.out]; exact hL8.out
        rw [hre8, HNQ.out] at ho8
        rw [hre8, HNQ.out]
        refine genH (F := fun W => NodeT W B g n c t wr.heap.size zs y4 /\ Own W wr.heap.size (.slice A3 62 c3) (suF f) /\ Own W w4.heap.size (.slice A8 q c8) (restF f) /\ Below B w W /\ wr.heap.size <= W.heap.size) ⟨HT4.out.later hw8, HO4.out.later hw8, ho8, hb4.trans (hw8.mono (Nat.le_trans hB hb4.size)), Nat.le_trans hs4 hw8.size⟩ (fun w8 h8 => ?_)
        have HT8 := Lib.hid h8.1; have HO8 := Lib.hid h8.2.1; have HR8 := Lib.hid h8.2.2.1; have hb8 := h8.2.2.2.1; have hs8 := h8.2.2.2.2
        clear h8
        clear hre8 ho8 hw8 hg8 hL8 hl8 hl8' hn74 hw7 hx7 HOR7 HO7 HN7 H50 hfd hb6 HT6 HO6 HOR hnl
        skip
       all_goals
        have k13 := HT8.out.cell htz 13 (.slice A3 62 c3) (by rw [HY4.out]; show some (Value.slice A3 (suF f).length c3) = _; rw [suF_len])
        have kf := HT8.out.frozen (by omega)
        have k13f := kf (t * 18 + 13)
        have hkk : zs[t].kids = y4.kids /\ zs[t].ka = y4.ka /\ zs[t].kc = y4.kc := by rw [HHX.out, HY4.out]; exact ⟨rfl, rfl, rfl⟩
        have HKK := Lib.hid hkk
        have hA3 : ∀ k, (Value.slice A3 62 c3).ownBlock = some k -> wr.heap.size <= k := fun k e => (World.ownsRow.lt HO8.out k e).1
        have HA3 := Lib.hid hA3
        have hfits' : Hid (∀ i, 0 < i -> i < t + 1 -> Fits (nodeAt (XNode.ns xs) i).f) := by
         unfold Hid; intro i h1 h2
         by_cases e : i < t
         . exact hfits.out i h1 e
         . have : i = t := by omega
           subst this
           have e2 : nodeAt (XNode.ns xs) i = xs[i].toNode := nodeAt_ns xs i htx
           rw [e2, show xs[i].toNode.f = xs[i].f from rfl, HXF.out]; exact HFT.out
        have HTI := Lib.hid hti2
        clear hkk hA3 hti hti2 ht0 HFT
        by_cases hq160 : 62 + q <= 160
        . have hz1 : (62 : Int) + (q : Int) <= 160 := by omega
          go_upto_region 18 with (fail)
          clear hz1
          go_wp2_with (at_builtin; refine asList rfl fun K hK => ?_; go_must (refine go_appB (w0 := w8) (.tmp 86) (.tmp 87) rfl wr.heap.size w8.heap.size _ _ (suF f) (restF f) rfl HO8.out rfl HR8.out.rd (by rw [suF_len, HNQ.out]; omega) (Below.refl _ _) hs8 ?_); rintro A9 c9 w9 L9 hL9 hl9 hl9' ho9 hb9 hg9; refine hK _ _ ?_; clear hK K; have T9 := HT8.out.grown hg9 HA3.out; have k13' := T9.cell htz 13 (.slice A3 62 c3) (by rw [HY4.out]; show some (Value.slice A3 (suF f).length c3) = _; rw [suF_len]); have k13f' := T9.frozen (by omega) (t * 18 + 13); have HT9 := Lib.hid T9; clear T9)
          have hL9e : L9 = suF f ++ restF f := hL9.out
          have T10 := HT9.out.store hzl.symm htz 13 (by decide) (.slice A9 L9.length c9) { y4 with su := L9, sa := A9, sc := c9 } rfl
          have ho10 : Own (w9.setCell ⟨g, t * 18 + 13, none⟩ (.slice A9 L9.length c9)) wr.heap.size (.slice A9 L9.length c9) L9 := HT9.out.own (u := .slice A9 L9.length c9) (t * 18 + 13) ho9 (by decide)
          have hm0 := T10.more _ (List.getElem_mem htz)
          have hfin := T10.finish htz hzl.symm HKK.out.1.symm HKK.out.2.1.symm HKK.out.2.2.symm (ho10.lower (Nat.le_trans hB hb.size)) (by rw [HHX.out] at hm0; rw [HY4.out]; exact hm0)
          have hst := HSTEP.out ({ y4 with su := L9, sa := A9, sc := c9 } : XNode).toNode area (by
           unfold rockN; rw [if_neg HTI.out, HNT.out, HXF.out, if_pos (by rw [suF_len, HNQ.out]; exact hq160), <- har.out, HY4.out, <- HXN.out, hL9e]
           have hfe := HF.out
           subst hfe
           rfl)
          have HFIN := Lib.hid hfin; have HST := Lib.hid hst
          have hbf : Below B w (w9.setCell ⟨g, t * 18 + 13, none⟩ (.slice A9 L9.length c9)) := (hb8.trans (hb9.mono (Nat.le_trans hB hb.size))).setCell hgl.1 _
          clear T10 ho10 hm0 hfin hst k13 k13f k13' k13f' ho9 hb9 hg9 hL9 hl9 hl9'
          go_roundw
          case rel => exact ⟨t + 1, area, _, hlt, by first | (simp; done), rfl, rfl, HFIN.out, by rw [List.length_set]; exact hzl, by unfold Hid; rw [<- HST.out.1]; simp [XNode.ns, List.map_set], HST.out.2, by omega, hfits', hbf⟩
          case measure => simp [intOf]; omega
        . have hz1 : ¬ (62 : Int) + (q : Int) <= 160 := by omega
          have hab2 : area <= 244800 := by omega
          have zt : (area : Int).tmod 2048 = (area : Int) % 2048 := by rw [Int.tmod_eq_emod_of_nonneg (by omega)]
          by_cases h2 : 2048 < area % 2048 + q
          . have h2I : (2048 : Int) < (area : Int) % 2048 + (q : Int) := by omega
            go_upto_region 21 with (fail)
            obtain ⟨a1, ha1⟩ : ∃ a1, rockAt area q = a1 := ⟨_, rfl⟩
            have ha1b : area <= a1 /\ a1 <= area + 2048 := by have := rockAt_bd area q (by omega); rw [ha1] at this; exact ⟨this.1, this.2.1⟩
            rw [show (area : Int) + (2048 - (area : Int) % 2048) = ((a1 : Nat) : Int) from by rw [<- ha1]; unfold rockAt; rw [if_pos h2]; omega]
            have HA1 := Lib.hid ha1
            clear ha1 h2 h2I zt hz1
            have k14 := HT8.out.cell htz 14 (.slice x.ma x.more.length x.mc) (by rw [HY4.out]; rfl)
            have k14f := kf (t * 18 + 14)
            have S14 := HT8.out.store hzl.symm htz 14 (by decide) (.slice A8 q c8) { y4 with more := restF f, ma := A8, mc := c8 } (by simp [HNQ.out])
            have k15 := S14.cell htz 15 (.int .u32 x.place) (by rw [HY4.out]; rfl)
            have k15f := S14.frozen (by omega) (t * 18 + 15)
            have S15 := S14.store hzl.symm htz 15 (by decide) (.int .u32 (a1 : Nat)) { y4 with more := restF f, ma := A8, mc := c8, place := a1 } rfl
            have r14 : Own (w8.setCell ⟨g, t * 18 + 14, none⟩ (.slice A8 q c8)) w4.heap.size (.slice A8 q c8) (restF f) := HT8.out.own (t * 18 + 14) HR8.out (by decide)
            have r15 : Own ((w8.setCell ⟨g, t * 18 + 14, none⟩ (.slice A8 q c8)).setCell ⟨g, t * 18 + 15, none⟩ (.int .u32 (a1 : Nat))) w4.heap.size (.slice A8 q c8) (restF f) := S14.own (t * 18 + 15) r14 (by decide)
            have o14 : Own (w8.setCell ⟨g, t * 18 + 14, none⟩ (.slice A8 q c8)) wr.heap.size (.slice A3 62 c3) (suF f) := HT8.out.own (t * 18 + 14) HO8.out (by decide)
            have o15 : Own ((w8.setCell ⟨g, t * 18 + 14, none⟩ (.slice A8 q c8)).setCell ⟨g, t * 18 + 15, none⟩ (.int .u32 (a1 : Nat))) wr.heap.size (.slice A3 62 c3) (suF f) := S14.own (t * 18 + 15) o14 (by decide)
            have hfin := S15.finish htz hzl.symm HKK.out.1.symm HKK.out.2.1.symm HKK.out.2.2.symm (by rw [HY4.out]; show Own _ B (.slice A3 (suF f).length c3) (suF f); rw [suF_len]; exact o15.lower (Nat.le_trans hB hb.size)) (by show Own _ B (.slice A8 (restF f).length c8) (restF f); rw [HNQ.out]; exact r15.lower (Nat.le_trans hB hb4.size))
            have hst := HSTEP.out ({ y4 with more := restF f, ma := A8, mc := c8, place := a1 } : XNode).toNode (a1 + q) (by
             unfold rockN; rw [if_neg HTI.out, HNT.out, HXF.out, if_neg (by rw [suF_len, HNQ.out]; exact hq160), <- har.out, HY4.out, <- HXN.out, HNQ.out, HA1.out]
             have hfe := HF.out
             subst hfe
             rfl)
            have HFIN := Lib.hid hfin; have HST := Lib.hid hst
            have hbf : Below B w ((w8.setCell ⟨g, t * 18 + 14, none⟩ (.slice A8 q c8)).setCell ⟨g, t * 18 + 15, none⟩ (.int .u32 (a1 : Nat))) := (hb8.setCell hgl.1 _).setCell hgl.1 _
            have hz9 : (a1 : Int) + (q : Int) < 4294967296 := by omega
            clear S14 S15 r14 r15 o14 o15 hfin hst k13 k13f
            go_wp2_with (fail)
            go_roundw
            case rel => exact ⟨t + 1, a1 + q, _, hlt, by first | (simp; done), by first | rfl | (simp; done) | (congr 1; omega), rfl, HFIN.out, by rw [List.length_set]; exact hzl, by unfold Hid; rw [<- HST.out.1]; simp [XNode.ns, List.map_set], HST.out.2, by omega, hfits', hbf⟩
            case measure => simp [intOf]; omega
          . have h2I : ¬ (2048 : Int) < (area : Int) % 2048 + (q : Int) := by omega
            go_upto_region 21 with (fail)
            obtain ⟨a1, ha1⟩ : ∃ a1, rockAt area q = a1 := ⟨_, rfl⟩
            have ha1b : area <= a1 /\ a1 <= area + 2048 := by have := rockAt_bd area q (by omega); rw [ha1] at this; exact ⟨this.1, this.2.1⟩
            have e1 : a1 = area := by rw [<- ha1]; unfold rockAt; rw [if_neg h2]
            rw [show Value.int IntKind.u32 (area : Nat) = Value.int IntKind.u32 (a1 : Nat) from by rw [e1]]
            clear e1
            have HA1 := Lib.hid ha1
            clear ha1 h2 h2I zt hz1
            have k14 := HT8.out.cell htz 14 (.slice x.ma x.more.length x.mc) (by rw [HY4.out]; rfl)
            have k14f := kf (t * 18 + 14)
            have S14 := HT8.out.store hzl.symm htz 14 (by decide) (.slice A8 q c8) { y4 with more := restF f, ma := A8, mc := c8 } (by simp [HNQ.out])
            have k15 := S14.cell htz 15 (.int .u32 x.place) (by rw [HY4.out]; rfl)
            have k15f := S14.frozen (by omega) (t * 18 + 15)
            have S15 := S14.store hzl.symm htz 15 (by decide) (.int .u32 (a1 : Nat)) { y4 with more := restF f, ma := A8, mc := c8, place := a1 } rfl
            have r14 : Own (w8.setCell ⟨g, t * 18 + 14, none⟩ (.slice A8 q c8)) w4.heap.size (.slice A8 q c8) (restF f) := HT8.out.own (t * 18 + 14) HR8.out (by decide)
            have r15 : Own ((w8.setCell ⟨g, t * 18 + 14, none⟩ (.slice A8 q c8)).setCell ⟨g, t * 18 + 15, none⟩ (.int .u32 (a1 : Nat))) w4.heap.size (.slice A8 q c8) (restF f) := S14.own (t * 18 + 15) r14 (by decide)
            have o14 : Own (w8.setCell ⟨g, t * 18 + 14, none⟩ (.slice A8 q c8)) wr.heap.size (.slice A3 62 c3) (suF f) := HT8.out.own (t * 18 + 14) HO8.out (by decide)
            have o15 : Own ((w8.setCell ⟨g, t * 18 + 14, none⟩ (.slice A8 q c8)).setCell ⟨g, t * 18 + 15, none⟩ (.int .u32 (a1 : Nat))) wr.heap.size (.slice A3 62 c3) (suF f) := S14.own (t * 18 + 15) o14 (by decide)
            have hfin := S15.finish htz hzl.symm HKK.out.1.symm HKK.out.2.1.symm HKK.out.2.2.symm (by rw [HY4.out]; show Own _ B (.slice A3 (suF f).length c3) (suF f); rw [suF_len]; exact o15.lower (Nat.le_trans hB hb.size)) (by show Own _ B (.slice A8 (restF f).length c8) (restF f); rw [HNQ.out]; exact r15.lower (Nat.le_trans hB hb4.size))
            have hst := HSTEP.out ({ y4 with more := restF f, ma := A8, mc := c8, place := a1 } : XNode).toNode (a1 + q) (by
             unfold rockN; rw [if_neg HTI.out, HNT.out, HXF.out, if_neg (by rw [suF_len, HNQ.out]; exact hq160), <- har.out, HY4.out, <- HXN.out, HNQ.out, HA1.out]
             have hfe := HF.out
             subst hfe
             rfl)
            have HFIN := Lib.hid hfin; have HST := Lib.hid hst
            have hbf : Below B w ((w8.setCell ⟨g, t * 18 + 14, none⟩ (.slice A8 q c8)).setCell ⟨g, t * 18 + 15, none⟩ (.int .u32 (a1 : Nat))) := (hb8.setCell hgl.1 _).setCell hgl.1 _
            have hz9 : (a1 : Int) + (q : Int) < 4294967296 := by omega
            clear S14 S15 r14 r15 o14 o15 hfin hst k13 k13f
            go_wp2_with (fail)
            go_roundw
            case rel => exact ⟨t + 1, a1 + q, _, hlt, by first | (simp; done), by first | rfl | (simp; done) | (congr 1; omega), rfl, HFIN.out, by rw [List.length_set]; exact hzl, by unfold Hid; rw [<- HST.out.1]; simp [XNode.ns, List.map_set], HST.out.2, by omega, hfits', hbf⟩
            case measure => simp [intOf]; omega
  . have hte : t = n := by omega
    subst hte
    go_wp2_with (fail)
    go_ret2
    refine ⟨hb, .inl ⟨zs, area, rfl, hNz.out, ?_, fun i h1 h2 => hfits.out i h1 h2⟩⟩
    have hxl : (XNode.ns xs).length = t := by simp [XNode.ns]; exact HNL.out.symm
    have e1 : (XNode.ns xs).take t = XNode.ns xs := List.take_of_length_le (by omega)
    have e2 : (XNode.ns xs).drop t = [] := List.drop_eq_nil_of_le (by omega)
    have h1 := hns.out
    have h2 := har.out
    rw [e1, e2, List.append_nil] at h1
    rw [e1] at h2
    rw [h1, h2]
end Go.Proofs.YtilgpaeeleknhaaGreatDoor
