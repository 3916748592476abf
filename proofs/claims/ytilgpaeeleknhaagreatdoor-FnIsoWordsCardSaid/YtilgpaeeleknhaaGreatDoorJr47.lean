/- A part of the proof of laws.FnIsoRock (see the last text). -/
import Derived.Test.YtilgpaeeleknhaaGreatDoorJr41
import Derived.Test.YtilgpaeeleknhaaGreatDoorJr46
set_option linter.unusedSimpArgs false
set_option linter.unusedVariables false
set_option maxRecDepth 1000000
set_option maxHeartbeats 8000000
namespace Go.Proofs.YtilgpaeeleknhaaGreatDoor
open Go Go.RowKit
structure RockF (f : File) : Prop where
 path : f.path.size <= 900
 valid : Lib.validD f.p = true
 data : f.data.size <= 60000
 t0 : 0 <= f.time
 t1 : f.time < 4102444800
 perm : f.perm < 512
 uid : f.uid < 4294967296
 gid : f.gid < 4294967296
 dt : f.dir = true -> f.target.data.toList = []
 link : LinkG f.target.data.toList
 sl : f.target.data.toList ≠ [] -> (compsB (linkComps f.target.data.toList)).length <= 239
 back : (92 : UInt8) ∉ (cutLast f.p).2
 short : (cutLast f.p).2.length <= 100
 trim : f.dir = false -> Lib.trimSuffix (cutLast f.p).2 [59, 49] = (cutLast f.p).2 /\ Lib.trimSuffix (cutLast f.p).2 [46] = (cutLast f.p).2 /\ Lib.trimPrefix (cutLast f.p).2 [46] = (cutLast f.p).2
theorem comps_more (ps : List (List UInt8)) (nm : List UInt8) (h1 : nm ≠ []) (h2 : nm ≠ [47]) : (ps.map (some : List UInt8 -> Comp)).foldl compStep nm = nm ++ ps.flatMap (fun s => 47 :: s) := by
 induction ps generalizing nm with
 | nil => simp
 | cons s ps ih =>
   have e : compStep nm (some s) = nm ++ 47 :: s := by
    show nmStep nm s = _
    unfold nmStep; rw [if_pos ⟨h1, h2⟩]; simp
   simp only [List.map_cons, List.foldl_cons, e]
   rw [ih (nm ++ 47 :: s) (by simp) (by
    intro e'
    cases nm with
    | nil => exact h1 rfl
    | cons a l =>
      have := congrArg List.length e'
      simp at this), List.flatMap_cons]
   simp
theorem comps_start (nm : List UInt8) (hn : nm = [] \/ nm = [47]) (ps : List (List UInt8)) (hne : ps ≠ []) (h : ∀ s ∈ ps, s ≠ [] /\ (47 : UInt8) ∉ s) : (ps.map (some : List UInt8 -> Comp)).foldl compStep nm = nm ++ joinP ps := by
 cases ps with
 | nil => exact absurd rfl hne
 | cons s ps =>
   obtain ⟨h1, h2⟩ := h s (by simp)
   have e : compStep nm (some s) = nm ++ s := by
    show nmStep nm s = _
    unfold nmStep
    rw [if_neg]
    rintro ⟨a, b⟩
    rcases hn with e | e
    . exact a e
    . exact b e
   simp only [List.map_cons, List.foldl_cons, e]
   rw [comps_more ps (nm ++ s) (by simp [h1]) (by
    intro e'
    have hm : (47 : UInt8) ∈ nm ++ s := by rw [e']; simp
    rcases List.mem_append.1 hm with hm | hm
    . rcases hn with e2 | e2
      . rw [e2] at hm; cases hm
      . rw [e2] at e'
        have := congrArg List.length e'
        simp at this
        exact h1 this
    . exact h2 hm), joinP_flat]
   simp
theorem compsN_link (l : List UInt8) (hl : l ≠ []) (h : LinkG l) : compsN (linkComps l) = l /\ ∀ c ∈ linkComps l, CompOk c := by
 rcases h with h | ⟨r, h, hp⟩
 . exact absurd h hl
 . have hne := els_ne r
   have hno := els_no r
   have hj := joinP_els r
   have hps : ∀ s ∈ Lib.Pa.els r, s ≠ [] /\ (47 : UInt8) ∉ s := fun s hs => ⟨(hp s hs).pos, hno s hs⟩
   have hok : ∀ s ∈ Lib.Pa.els r, 1 <= s.length /\ s.length <= 100 := fun s hs => ⟨List.length_pos_iff.2 (hp s hs).pos, (hp s hs).len⟩
   rcases h with rfl | ⟨rfl, h47⟩
   . unfold linkComps
     rw [if_pos (by simp)]
     constructor
     . show ((Lib.Pa.els r).map some).foldl compStep (compStep [] none) = _
       rw [comps_start (compStep [] none) (.inr rfl) _ hne hps, hj]; rfl
     . intro c hc s hs
       simp only [List.mem_cons, List.mem_map] at hc
       rcases hc with rfl | ⟨t, ht, rfl⟩
       . cases hs
       . cases hs; exact hok s ht
   . unfold linkComps
     rw [if_neg h47]
     constructor
     . unfold compsN
       rw [comps_start [] (.inl rfl) _ hne hps, hj]; rfl
     . intro c hc s hs
       simp only [List.mem_map] at hc
       obtain ⟨t, ht, rfl⟩ := hc
       cases hs; exact hok s ht
theorem ce_bytes (x y z : Nat) : (Item.ce x y z).bytes = ceB x y z := rfl
theorem er_bytes : Item.er.bytes = erB := rfl
theorem sp_bytes : Item.sp.bytes = suspB 83 80 [190, 239, 0] := rfl
theorem itemsB_app (a b : List Item) : itemsB (a ++ b) = itemsB a ++ itemsB b := by unfold itemsB; rw [List.flatMap_append]
theorem RockF.su_ok {f : File} (h : RockF f) : ∀ it ∈ suItems f, it.Ok := by
 intro it hit
 simp only [suItems, List.mem_cons, List.not_mem_nil, or_false] at hit
 rcases hit with rfl | rfl
 . exact ⟨by split <;> decide, h.uid, h.gid, h.perm⟩
 . trivial
theorem root_su_ok : ∀ it ∈ suItems rootFile, it.Ok := by
 intro it hit
 simp only [suItems, List.mem_cons, List.not_mem_nil, or_false] at hit
 rcases hit with rfl | rfl
 . exact ⟨by decide, by decide, by decide, by decide⟩
 . trivial
theorem RockF.rest_ok {f : File} (h : RockF f) (hn : (cutLast f.p).2 ≠ []) : ∀ it ∈ restItems f, it.Ok := by
 intro it hit
 unfold restItems at hit
 rcases List.mem_cons.1 hit with rfl | hit
 . exact ⟨List.length_pos_iff.2 hn, by have := h.short; omega⟩
 . split at hit
   . cases hit
   . next ht =>
     rw [List.mem_singleton] at hit
     subst hit
     exact ⟨(compsN_link _ ht h.link).2, by have := h.sl ht; omega⟩
theorem restF_len {f : File} (h : RockF f) : 5 <= (restF f).length /\ (restF f).length <= 350 := by
 have h1 := h.short
 unfold restF restItems itemsB
 rw [List.flatMap_cons, List.length_append, Item.len]
 show 5 <= 4 + (0 :: (cutLast f.p).2).length + _ /\ 4 + (0 :: (cutLast f.p).2).length + _ <= 350
 rw [List.length_cons]
 split
 . simp; omega
 . next ht =>
   have := h.sl ht
   simp only [List.flatMap_cons, List.flatMap_nil, List.append_nil, Item.len]
   have e : (Item.sl (linkComps f.target.data.toList)).body.length = 1 + (compsB (linkComps f.target.data.toList)).length := by
    show (0 :: compsB (linkComps f.target.data.toList)).length = _
    rw [List.length_cons]; omega
   rw [e]; omega
theorem rest_cnt (f : File) : 1 <= (restItems f).length /\ (restItems f).length <= 2 := by
 unfold restItems; split <;> simp
theorem rest_noce (f : File) (pre : List Item) : NoCe (pre ++ restItems f) := by
 intro x y z
 unfold restItems
 split
 . rw [List.getLast?_append]; simp
 . rw [List.getLast?_append]; simp
theorem su_noce (f : File) (pre : List Item) : NoCe (pre ++ suItems f) := by
 intro x y z
 unfold suItems
 rw [List.getLast?_append]; simp
theorem Sim.pts {ns ks : List Node} (h : Sim ns ks) (i : Nat) : pts ks i = pts ns i := by unfold YtilgpaeeleknhaaGreatDoor.pts; rw [h.f]
theorem Sim.nam {ns ks : List Node} (h : Sim ns ks) (i : Nat) : nam ks i = nam ns i := by unfold YtilgpaeeleknhaaGreatDoor.nam; rw [h.f]
def suIts (n : Node) : List Item := if n.more = [] then suItems n.f ++ restItems n.f else suItems n.f
def selfIts (ks : List Node) (i : Nat) : List Item := if i = 0 then suItems (nodeAt ks 0).f else suIts (nodeAt ks i)
def selfX (ks : List Node) (area i : Nat) : RX :=
 ⟨⟨[0], (nodeAt ks i).extent, (nodeAt ks i).size, (nodeAt ks i).f.time, true, dotSu area ks i⟩, if i = 0 then [.sp] ++ suItems (nodeAt ks 0).f ++ [.ce (area + (nodeAt ks 0).place / 2048) ((nodeAt ks 0).place % 2048) 157] else suIts (nodeAt ks i), if i = 0 then [.sp] ++ suItems (nodeAt ks 0).f ++ [.er] else suIts (nodeAt ks i), []⟩
def parX (ks : List Node) (i : Nat) : RX :=
 ⟨⟨[1], (nodeAt ks (parOf ks i)).extent, (nodeAt ks (parOf ks i)).size, (nodeAt ks (parOf ks i)).f.time, true, (nodeAt ks (parOf ks i)).su⟩, selfIts ks (parOf ks i), selfIts ks (parOf ks i), []⟩
def kidX (ks : List Node) (area k : Nat) : RX :=
 ⟨⟨(nodeAt ks k).id.data.toList, (nodeAt ks k).extent, (nodeAt ks k).size, (nodeAt ks k).f.time, (nodeAt ks k).f.dir, kidSu area (nodeAt ks k)⟩, if (nodeAt ks k).more = [] then suItems (nodeAt ks k).f ++ restItems (nodeAt ks k).f else suItems (nodeAt ks k).f ++ [.ce (area + (nodeAt ks k).place / 2048) ((nodeAt ks k).place % 2048) (nodeAt ks k).more.length], suItems (nodeAt ks k).f ++ restItems (nodeAt ks k).f, nam ks k⟩
def treeX (ks : List Node) (area : Nat) : TreeX := ⟨selfX ks area, parX ks, kidX ks area, dirBytesX area ks⟩
theorem treeX_recs (ks : List Node) (area i : Nat) : dirRecsX area ks i = ((treeX ks area).recs ks i).map RX.bytes := by
 unfold dirRecsX TreeX.recs
 simp only [List.map_cons, List.map_map]
 rfl
structure IsoX (fs : List File) (ns ks : List Node) (ds : List Nat) (img vol : List UInt8) (area next : Nat) : Prop where
 good : GoodX fs
 rock : ∀ f ∈ fs, RockF f
 fam : Fam true ns fs
 sim : Sim ns ks
 su0 : (nodeAt ks 0).su = suF (nodeAt ks 0).f /\ (nodeAt ks 0).more = []
 su : ∀ i, 0 < i -> i < ks.length -> ((nodeAt ks i).su = suF (nodeAt ks i).f ++ restF (nodeAt ks i).f /\ (nodeAt ks i).more = [] /\ 62 + (restF (nodeAt ks i).f).length <= 160) \/ ((nodeAt ks i).su = suF (nodeAt ks i).f /\ (nodeAt ks i).more = restF (nodeAt ks i).f /\ (nodeAt ks i).place % 2048 + (restF (nodeAt ks i).f).length <= 2048)
 sec : (nodeAt ks 0).place % 2048 + 157 <= 2048
 pl0 : (nodeAt ks 0).place + 157 <= 102573
 plk : ∀ i, 0 < i -> i < ks.length -> (nodeAt ks i).more ≠ [] -> (nodeAt ks i).place + (nodeAt ks i).more.length <= (nodeAt ks 0).place
 er : Holds img (area * 2048 + (nodeAt ks 0).place) erB
 more : ∀ i, 0 < i -> i < ks.length -> (nodeAt ks i).more ≠ [] -> Holds img (area * 2048 + (nodeAt ks i).place) (nodeAt ks i).more
 node : ∀ i, i < ks.length -> 20 <= (nodeAt ks i).extent /\ (nodeAt ks i).size = (contentR true area ks i).length /\ (nodeAt ks i).extent * 2048 + (nodeAt ks i).size <= img.length /\ (nodeAt ks i).extent <= 100000 /\ (img.drop ((nodeAt ks i).extent * 2048)).take (nodeAt ks i).size = contentR true area ks i
 nod : ∀ i, (kidsOf ks i).Nodup
 cnt : ∀ i, (kidsOf ks i).length <= 100
 len : img.length = next * 2048
 nxb : next <= 100000
 arb : area <= 50000
 fit : area * 2048 + (nodeAt ks 0).place + 157 <= img.length
theorem IsoX.pos {fs : List File} {ns ks : List Node} {ds : List Nat} {img vol : List UInt8} {area next : Nat} (h : IsoX fs ns ks ds img vol area next) : ks.length = fs.length + 1 := by rw [h.sim.len, h.fam.len]
theorem IsoX.file {fs : List File} {ns ks : List Node} {ds : List Nat} {img vol : List UInt8} {area next : Nat} (h : IsoX fs ns ks ds img vol area next) (k : Nat) (h0 : 0 < k) (hk : k < ks.length) : (nodeAt ks k).f ∈ fs /\ RockF (nodeAt ks k).f := by
 have hl := h.pos
 have := h.fam.mem (k - 1) (by omega)
 rw [show k - 1 + 1 = k by omega, <- h.sim.f] at this
 exact ⟨this, h.rock _ this⟩
theorem IsoX.root {fs : List File} {ns ks : List Node} {ds : List Nat} {img vol : List UInt8} {area next : Nat} (h : IsoX fs ns ks ds img vol area next) : (nodeAt ks 0).f = rootFile := by rw [h.sim.f, h.fam.root.1]
theorem IsoX.kid {fs : List File} {ns ks : List Node} {ds : List Nat} {img vol : List UInt8} {area next : Nat} (h : IsoX fs ns ks ds img vol area next) {i k : Nat} (hk : k ∈ kidsOf ks i) : 0 < k /\ k < ks.length /\ parOf ks k = i /\ i < ks.length := by
 have hl := h.sim.len
 by_cases hi : i < ks.length
 . rw [h.sim.kids] at hk
   have := (h.fam.kids i (by omega) k).1 hk
   rw [h.sim.par]
   exact ⟨this.1, by omega, this.2.2, hi⟩
 . rw [show kidsOf ks i = (nodeAt ks i).kids from rfl, out_node (by omega)] at hk
   cases hk
theorem IsoX.step {fs : List File} {ns ks : List Node} {ds : List Nat} {img vol : List UInt8} {area next : Nat} (h : IsoX fs ns ks ds img vol area next) (k : Nat) (h0 : 0 < k) (hk : k < ks.length) : pts ks k = pts ks (parOf ks k) ++ [nam ks k] /\ parOf ks k < k /\ dirOf ks (parOf ks k) = true /\ nam ks k ≠ [] := by
 have hl := h.sim.len
 have hl2 := h.fam.len
 have h1 := pts_step h.good h.fam (k - 1) (by omega)
 have h2 := h.fam.par (k - 1) (by omega)
 rw [show k - 1 + 1 = k by omega] at h1 h2
 rw [h.sim.pts, h.sim.pts, h.sim.par, h.sim.nam, h.sim.dir]
 exact ⟨h1, h2.1, h2.2.1, h2.2.2.2⟩
theorem IsoX.inj {fs : List File} {ns ks : List Node} {ds : List Nat} {img vol : List UInt8} {area next : Nat} (h : IsoX fs ns ks ds img vol area next) (i j : Nat) (hi : i < ks.length) (hj : j < ks.length) (e : pts ks i = pts ks j) : i = j := by
 have hl := h.sim.len
 rw [h.sim.pts, h.sim.pts] at e
 exact pts_inj h.good h.fam i j (by omega) (by omega) e
theorem IsoX.uniq {fs : List File} {ns ks : List Node} {ds : List Nat} {img vol : List UInt8} {area next : Nat} (h : IsoX fs ns ks ds img vol area next) (i k : Nat) (hk : k ∈ kidsOf ks i) (k' : Nat) (hk' : k' ∈ kidsOf ks i) (e : nam ks k' = nam ks k) : k' = k := by
 obtain ⟨a, b, c, _⟩ := h.kid hk
 obtain ⟨a', b', c', _⟩ := h.kid hk'
 refine h.inj k' k b' b ?_
 rw [(h.step k' a' b').1, (h.step k a b).1, c, c', e]
theorem IsoX.parts {fs : List File} {ns ks : List Node} {ds : List Nat} {img vol : List UInt8} {area next : Nat} (h : IsoX fs ns ks ds img vol area next) : ∀ n i, i < n -> i < ks.length -> ∀ s ∈ pts ks i, GoodPart s /\ (92 : UInt8) ∉ s := by
 intro n
 induction n with
 | zero => intro i hi; omega
 | succ n ih =>
   intro i hi hl s hs
   rcases Nat.eq_zero_or_pos i with rfl | h0
   . rw [show pts ks 0 = [] from rfl] at hs; cases hs
   . obtain ⟨h1, h2, h3, h4⟩ := h.step i h0 hl
     rw [h1] at hs
     rcases List.mem_append.1 hs with hs | hs
     . exact ih _ (by omega) (by omega) s hs
     . rw [List.mem_singleton] at hs
       subst hs
       obtain ⟨hf, hr⟩ := h.file i h0 hl
       refine ⟨h.good.parts _ hf _ ?_, hr.back⟩
       have e : pts ks i = Lib.Pa.els (nodeAt ks i).f.p := by unfold pts; rw [if_neg (by omega)]
       rw [<- e, h1]; simp
theorem IsoX.down {fs : List File} {ns ks : List Node} {ds : List Nat} {img vol : List UInt8} {area next : Nat} (h : IsoX fs ns ks ds img vol area next) : ∀ (qs : List (List UInt8)) (i j : Nat), i < ks.length -> DownX ks (treeX ks area) i qs j -> pts ks j = pts ks i ++ qs /\ j < ks.length := by
 intro qs
 induction qs with
 | nil => intro i j hi hd; cases hd; exact ⟨by simp, hi⟩
 | cons q qs ih =>
   intro i j hi hd
   cases hd with
   | cons _ k _ _ _ hk hkd hq hu hd =>
     obtain ⟨a, b, c, _⟩ := h.kid hk
     obtain ⟨e, hj⟩ := ih k j b hd
     refine ⟨?_, hj⟩
     have : nam ks k = q := hq
     rw [e, (h.step k a b).1, c, this, List.append_assoc]; rfl
theorem IsoX.told {fs : List File} {ns ks : List Node} {ds : List Nat} {img vol : List UInt8} {area next : Nat} (h : IsoX fs ns ks ds img vol area next) (k : Nat) (h0 : 0 < k) (hk : k < ks.length) (hid : (nodeAt ks k).id.data.toList.length = 7 \/ (nodeAt ks k).id.data.toList.length = 10) : Told (nodeAt ks k).f (kidX ks area k) := by
 obtain ⟨hf, hr⟩ := h.file k h0 hk
 refine ⟨?_, ?_, rfl, rfl, ?_, hr.perm, hr.t0, hr.t1, ?_, fun hd => hr.trim hd⟩
 . show decide ((nodeAt ks k).id.data.toList = [0]) = false
   rw [decide_eq_false_iff_not]; intro e; rw [e] at hid; simp at hid
 . show decide ((nodeAt ks k).id.data.toList = [1]) = false
   rw [decide_eq_false_iff_not]; intro e; rw [e] at hid; simp at hid
 . refine ⟨if (nodeAt ks k).f.dir then 2 else 1, if (nodeAt ks k).f.target.data.toList = [] then [] else [.sl (linkComps (nodeAt ks k).f.target.data.toList)], rfl, by split <;> decide, ?_⟩
   by_cases ht : (nodeAt ks k).f.target.data.toList = []
   . exact .inl ⟨ht, by rw [if_pos ht]⟩
   . refine .inr ⟨ht, ?_, _, by rw [if_neg ht], (compsN_link _ ht hr.link).1⟩
     cases hd : (nodeAt ks k).f.dir with
     | false => rfl
     | true => exact absurd (hr.dt hd) ht
 . have := hr.short
   show (cutLast (nodeAt ks k).f.p).2.length <= 1000
   omega
theorem IsoX.idlen {fs : List File} {ns ks : List Node} {ds : List Nat} {img vol : List UInt8} {area next : Nat} (h : IsoX fs ns ks ds img vol area next) (k : Nat) (h0 : 0 < k) (hk : k < ks.length) : (nodeAt ks k).id.data.toList.length = 7 \/ (nodeAt ks k).id.data.toList.length = 10 := by
 have hl := h.pos
 have := h.fam.id (k - 1) (by omega)
 rw [show k - 1 + 1 = k by omega, <- h.sim.id] at this
 rw [this]
 show (idOf true k _ _).length = 7 \/ (idOf true k _ _).length = 10
 unfold idOf
 simp only [if_true, List.length_append, List.length_cons, decs_length]
 split
 . exact .inl rfl
 . exact .inr rfl
theorem selfIts_su {fs : List File} {ns ks : List Node} {ds : List Nat} {img vol : List UInt8} {area next : Nat} (h : IsoX fs ns ks ds img vol area next) (i : Nat) (hi : i < ks.length) : (nodeAt ks i).su = itemsB (selfIts ks i) /\ (∀ it ∈ selfIts ks i, it.Ok) /\ 1 <= (selfIts ks i).length /\ (selfIts ks i).length <= 4 /\ NoCe (selfIts ks i) /\ (nodeAt ks i).su.length <= 160 := by
 unfold selfIts
 rcases Nat.eq_zero_or_pos i with rfl | h0
 . rw [if_pos rfl]
   refine ⟨h.su0.1, ?_, by simp [suItems], by simp [suItems], su_noce _ [], ?_⟩
   . rw [h.root]; exact root_su_ok
   . rw [h.su0.1, suF_len]; decide
 . rw [if_neg (by omega)]
   obtain ⟨hf, hr⟩ := h.file i h0 hi
   have hne := (h.step i h0 hi).2.2.2
   have hc := rest_cnt (nodeAt ks i).f
   unfold suIts
   rcases h.su i h0 hi with ⟨e1, e2, e3⟩ | ⟨e1, e2, e3⟩
   . rw [if_pos e2, e1, itemsB_app]
     refine ⟨rfl, ?_, ?_, ?_, rest_noce _ _, ?_⟩
     . intro it hit
       rcases List.mem_append.1 hit with hit | hit
       . exact hr.su_ok it hit
       . exact hr.rest_ok hne it hit
     . rw [List.length_append]; omega
     . rw [List.length_append]; simp only [suItems, List.length_cons, List.length_nil]; omega
     . rw [List.length_append, suF_len]; exact e3
   . have hm : (nodeAt ks i).more ≠ [] := by
      rw [e2]; intro e
      have := (restF_len hr).1
      rw [e] at this; simp at this
     rw [if_neg hm, e1]
     exact ⟨rfl, hr.su_ok, by simp [suItems], by simp [suItems], su_noce _ [], by rw [suF_len]; decide⟩
theorem rdX_self {fs : List File} {ns ks : List Node} {ds : List Nat} {img vol : List UInt8} {area next : Nat} (h : IsoX fs ns ks ds img vol area next) (i : Nat) (hi : i < ks.length) : RdX img (selfX ks area i) := by
 obtain ⟨n1, n2, n3, n4, n5⟩ := h.node i hi
 obtain ⟨s1, s2, s3, s4, s5, s6⟩ := selfIts_su h i hi
 have hnx := h.nxb
 have hlen := h.len
 have htime : 0 <= (nodeAt ks i).f.time /\ (nodeAt ks i).f.time < 4102444800 := by
  rcases Nat.eq_zero_or_pos i with rfl | h0
  . rw [h.root]; decide
  . have := (h.file i h0 hi).2; exact ⟨this.t0, this.t1⟩
 have hno : (selfX ks area i).r.self = true := rfl
 rcases Nat.eq_zero_or_pos i with rfl | h0
 . have hpl := h.pl0
   have har := h.arb
   have hsec := h.sec
   have hfit := h.fit
   have hdot : dotSu area ks 0 = itemsB ([.sp] ++ suItems (nodeAt ks 0).f ++ [.ce (area + (nodeAt ks 0).place / 2048) ((nodeAt ks 0).place % 2048) 157]) := by
    unfold dotSu
    rw [if_pos rfl, itemsB_app, itemsB_app, h.su0.1]
    simp [itemsB, suF, ce_bytes, sp_bytes]
   have hsi : (suItems (nodeAt ks 0).f).length = 2 := rfl
   have hfi : (selfX ks area 0).fi = [.sp] ++ suItems (nodeAt ks 0).f ++ [.ce (area + (nodeAt ks 0).place / 2048) ((nodeAt ks 0).place % 2048) 157] := by unfold selfX; dsimp only; rw [if_pos rfl]
   have hfo : (selfX ks area 0).fo = [.sp] ++ suItems (nodeAt ks 0).f ++ [.er] := by unfold selfX; dsimp only; rw [if_pos rfl]
   refine ⟨⟨.inl rfl, by show (nodeAt ks 0).extent < _; omega, by show (nodeAt ks 0).size < _; omega, htime, by rw [hfi]; exact hdot, ?_, by rw [hfi]; simp only [List.length_append, List.length_singleton]; omega, by rw [hfi]; simp only [List.length_append, List.length_singleton, hsi]; omega, ?_⟩, ?_, by rw [hfo]; simp only [List.length_append, List.length_singleton]; omega, by rw [hfo]; simp only [List.length_append, List.length_singleton, hsi]; omega, ?_, fun _ => rfl⟩
   . rw [hfi]
     intro it hit
     rcases List.mem_append.1 hit with hit | hit
     . rcases List.mem_append.1 hit with hit | hit
       . rw [List.mem_singleton] at hit; subst hit; trivial
       . rw [h.root] at hit; exact root_su_ok it hit
     . rw [List.mem_singleton] at hit; subst hit
       exact ⟨by omega, by omega, by decide⟩
   . show (dotSu area ks 0).length <= 200
     rw [dotSu_len]; unfold dotSuLen; rw [h.su0.1, suF_len]; decide
   . rw [hfi, hfo]
     refine .inr ⟨[.sp] ++ suItems (nodeAt ks 0).f, _, _, _, [.er], rfl, rfl, by intro x y z; simp, by simp, by simp, ?_, ?_, by omega, by omega, by omega, ?_, ?_⟩
     . intro it hit; rw [List.mem_singleton] at hit; subst hit; trivial
     . rw [show itemsB [Item.er] = erB from by simp [itemsB, er_bytes]]; exact er_len.symm
     . omega
     . have h1 := h.er.take
       rw [er_len] at h1
       rw [show (area + (nodeAt ks 0).place / 2048) * 2048 + (nodeAt ks 0).place % 2048 = area * 2048 + (nodeAt ks 0).place by omega, h1]
       simp [itemsB, er_bytes]
   . intro e; rw [hno] at e; cases e
 . have e0 : selfIts ks i = suIts (nodeAt ks i) := by unfold selfIts; rw [if_neg (by omega)]
   rw [e0] at s1 s2 s3 s4 s5
   have hd : dotSu area ks i = (nodeAt ks i).su := by unfold dotSu; rw [if_neg (by omega)]
   have e : selfX ks area i = ⟨⟨[0], (nodeAt ks i).extent, (nodeAt ks i).size, (nodeAt ks i).f.time, true, (nodeAt ks i).su⟩, suIts (nodeAt ks i), suIts (nodeAt ks i), []⟩ := by
    unfold selfX; rw [if_neg (by omega), if_neg (by omega), hd]
   rw [e] at hno ⊢
   refine ⟨⟨.inl rfl, by show (nodeAt ks i).extent < _; omega, by show (nodeAt ks i).size < _; omega, htime, s1, s2, s3, by show (suIts (nodeAt ks i)).length <= 20; omega, by show (nodeAt ks i).su.length <= 200; omega⟩, .inl ⟨rfl, s5⟩, s3, by show (suIts (nodeAt ks i)).length <= 100; omega, ?_, fun _ => rfl⟩
   intro e; rw [hno] at e; cases e
theorem rdX_par {fs : List File} {ns ks : List Node} {ds : List Nat} {img vol : List UInt8} {area next : Nat} (h : IsoX fs ns ks ds img vol area next) (i : Nat) (hi : i < ks.length) : RdX img (parX ks i) := by
 have hpi : parOf ks i < ks.length := by
  rcases Nat.eq_zero_or_pos i with rfl | h0
  . rw [h.sim.par, h.fam.root.2]; exact hi
  . have := (h.step i h0 hi).2.1; omega
 unfold parX
 generalize parOf ks i = p at hpi
 obtain ⟨n1, n2, n3, n4, n5⟩ := h.node p hpi
 obtain ⟨s1, s2, s3, s4, s5, s6⟩ := selfIts_su h p hpi
 have hnx := h.nxb
 have hlen := h.len
 have htime : 0 <= (nodeAt ks p).f.time /\ (nodeAt ks p).f.time < 4102444800 := by
  rcases Nat.eq_zero_or_pos p with rfl | h0
  . rw [h.root]; decide
  . have := (h.file p h0 hpi).2; exact ⟨this.t0, this.t1⟩
 refine ⟨⟨.inr (.inl rfl), by show (nodeAt ks p).extent < _; omega, by show (nodeAt ks p).size < _; omega, htime, s1, s2, s3, by show (selfIts ks p).length <= 20; omega, by show (nodeAt ks p).su.length <= 200; omega⟩, .inl ⟨rfl, s5⟩, s3, by show (selfIts ks p).length <= 100; omega, ?_, fun _ => rfl⟩
 intro _ e
 have : (Rec.par ⟨[1], (nodeAt ks p).extent, (nodeAt ks p).size, (nodeAt ks p).f.time, true, (nodeAt ks p).su⟩) = true := rfl
 rw [this] at e; cases e
theorem rdX_kid {fs : List File} {ns ks : List Node} {ds : List Nat} {img vol : List UInt8} {area next : Nat} (h : IsoX fs ns ks ds img vol area next) (k : Nat) (h0 : 0 < k) (hk : k < ks.length) : RdX img (kidX ks area k) := by
 obtain ⟨n1, n2, n3, n4, n5⟩ := h.node k hk
 obtain ⟨hf, hr⟩ := h.file k h0 hk
 have hid := h.idlen k h0 hk
 have hT := h.told k h0 hk hid
 have hne := (h.step k h0 hk).2.2.2
 have hc := rest_cnt (nodeAt ks k).f
 have hl := restF_len hr
 have hnx := h.nxb
 have hlen := h.len
 have har := h.arb
 have hsi : (suItems (nodeAt ks k).f).length = 2 := rfl
 have hid2 : (kidX ks area k).r.id = [0] \/ (kidX ks area k).r.id = [1] \/ (kidX ks area k).r.id.length = 7 \/ (kidX ks area k).r.id.length = 10 := .inr (.inr hid)
 have hfo : ∀ it ∈ suItems (nodeAt ks k).f ++ restItems (nodeAt ks k).f, it.Ok := by
  intro it hit
  rcases List.mem_append.1 hit with hit | hit
  . exact hr.su_ok it hit
  . exact hr.rest_ok hne it hit
 have hnm : (kidX ks area k).r.self = false -> (kidX ks area k).r.par = false -> NmAt (kidX ks area k).fo (kidX ks area k).nm := fun _ _ => hT.nmAt
 have hno : ((kidX ks area k).r.self || (kidX ks area k).r.par) = true -> (kidX ks area k).nm = [] := by
  intro e; rw [hT.self, hT.par] at e; cases e
 have hone : 1 <= (kidX ks area k).fo.length := by have := hT.two; omega
 have hcnt : (kidX ks area k).fo.length <= 100 := by have := hT.two; omega
 rcases h.su k h0 hk with ⟨e1, e2, e3⟩ | ⟨e1, e2, e3⟩
 . have hfi : (kidX ks area k).fi = suItems (nodeAt ks k).f ++ restItems (nodeAt ks k).f := if_pos e2
   have hsu : (kidX ks area k).r.su = suF (nodeAt ks k).f ++ restF (nodeAt ks k).f := by
    show kidSu area (nodeAt ks k) = _
    unfold kidSu; rw [if_pos e2, e1]
   refine ⟨⟨hid2, by show (nodeAt ks k).extent < _; omega, by show (nodeAt ks k).size < _; omega, ⟨hr.t0, hr.t1⟩, by rw [hsu, hfi, itemsB_app]; rfl, by rw [hfi]; exact hfo, by rw [hfi, List.length_append]; omega, by rw [hfi, List.length_append]; omega, by rw [hsu, List.length_append, suF_len]; omega⟩, ?_, hone, hcnt, hnm, hno⟩
   rw [hfi]
   exact .inl ⟨rfl, rest_noce _ _⟩
 . have hm : (nodeAt ks k).more ≠ [] := by
    rw [e2]; intro e
    have := hl.1
    rw [e] at this; simp at this
   have hplk := h.plk k h0 hk hm
   have hpl := h.pl0
   have hfit := h.fit
   have hml : (nodeAt ks k).more.length = (restF (nodeAt ks k).f).length := by rw [e2]
   have hfi : (kidX ks area k).fi = suItems (nodeAt ks k).f ++ [.ce (area + (nodeAt ks k).place / 2048) ((nodeAt ks k).place % 2048) (nodeAt ks k).more.length] := if_neg hm
   have hsu : (kidX ks area k).r.su = suF (nodeAt ks k).f ++ ceB (area + (nodeAt ks k).place / 2048) ((nodeAt ks k).place % 2048) (nodeAt ks k).more.length := by
    show kidSu area (nodeAt ks k) = _
    unfold kidSu; rw [if_neg hm, e1]
   refine ⟨⟨hid2, by show (nodeAt ks k).extent < _; omega, by show (nodeAt ks k).size < _; omega, ⟨hr.t0, hr.t1⟩, ?_, ?_, by rw [hfi, List.length_append]; omega, by rw [hfi, List.length_append, hsi]; simp, by rw [hsu, List.length_append, suF_len, ce_len]; decide⟩, ?_, hone, hcnt, hnm, hno⟩
   . rw [hsu, hfi, itemsB_app]
     simp [itemsB, suF, ce_bytes]
   . rw [hfi]
     intro it hit
     rcases List.mem_append.1 hit with hit | hit
     . exact hr.su_ok it hit
     . rw [List.mem_singleton] at hit; subst hit
       exact ⟨by omega, by omega, by omega⟩
   . rw [hfi]
     refine .inr ⟨suItems (nodeAt ks k).f, _, _, _, restItems (nodeAt ks k).f, rfl, rfl, rest_noce _ [], hc.1, by omega, hr.rest_ok hne, hml, by omega, by omega, by omega, by omega, ?_⟩
     have h1 := (h.more k h0 hk hm).take
     rw [show (area + (nodeAt ks k).place / 2048) * 2048 + (nodeAt ks k).place % 2048 = area * 2048 + (nodeAt ks k).place by omega, h1, e2]
     rfl
theorem fold_bd (l : List Nat) (o : Nat) (h : ∀ b ∈ l, 34 <= b /\ b <= 250) : l.foldl addLen o <= o + 2298 * l.length /\ o <= l.foldl addLen o := by
 induction l generalizing o with
 | nil => simp
 | cons b l ih =>
   have h1 := ih (addLen o b) (fun x hx => h x (by simp [hx]))
   have h2 := h b (by simp)
   have h3 : addLen o b <= o + 2298 /\ o <= addLen o b := by unfold addLen; split <;> omega
   simp only [List.foldl_cons, List.length_cons]; omega
theorem diskX_of {fs : List File} {ns ks : List Node} {ds : List Nat} {img vol : List UInt8} {area next : Nat} (h : IsoX fs ns ks ds img vol area next) (hd : ∀ i, i < ks.length -> dirOf ks i = true -> 34 <= (dirBytesX area ks i).length /\ (dirBytesX area ks i).length <= 1000000) : DiskX img ks (treeX ks area) := by
 have hnx := h.nxb
 have hlen := h.len
 have hex : ∀ i, (nodeAt ks i).extent < 400000 := by
  intro i
  by_cases hi : i < ks.length
  . have := (h.node i hi).2.2.2.1; omega
  . rw [out_node (by omega)]; decide
 have hct : ∀ i, dirOf ks i = true -> contentR true area ks i = dirBytesX area ks i := fun i hd => by unfold contentR; rw [if_pos hd]; rfl
 have hrd : ∀ i, i < ks.length -> ∀ x ∈ (treeX ks area).recs ks i, RdX img x := by
  intro i hi x hx
  unfold TreeX.recs at hx
  rcases List.mem_cons.1 hx with rfl | hx
  . exact rdX_self h i hi
  . rcases List.mem_cons.1 hx with rfl | hx
    . exact rdX_par h i hi
    . obtain ⟨k, hk, rfl⟩ := List.mem_map.1 hx
      obtain ⟨a, b, _⟩ := h.kid hk
      exact rdX_kid h k a b
 refine ⟨by omega, hex, fun i hi => by have := (h.node i hi).1; omega, fun i hi _ => (h.node i hi).2.2.1, fun i hi hdi => ?_, fun i hi hdi => ?_, fun i hi hdi => ?_, fun i hi hdi => ?_, fun i hi _ => hrd i hi, fun i hi => ?_, fun i hi _ => rfl, fun i hi _ => rfl, fun i hi hdi k hk => ?_⟩
 . rw [(h.node i hi).2.1, hct i hdi]; exact hd i hi hdi
 . rw [(h.node i hi).2.1, hct i hdi]; rfl
 . rw [(h.node i hi).2.2.2.2, hct i hdi]; rfl
 . rw [<- treeX_recs]
   refine recsAt_of _ [] (fun r hr => ?_)
   rw [treeX_recs] at hr
   obtain ⟨x, hx, rfl⟩ := List.mem_map.1 hr
   have := (hrd i hi x hx).ok.len2
   show x.r.bytes.length <= 2048
   omega
 . unfold TreeX.recs
   have := h.cnt i
   simp only [List.length_cons, List.length_map]; omega
 . obtain ⟨a, b, _⟩ := h.kid hk
   have hT := h.told k a b (h.idlen k a b)
   exact ⟨b, hT.self, hT.par, rfl, rfl, rfl, rfl, (h.step k a b).2.2.2⟩
theorem flat_congr {α β : Type} {f g : α -> List β} : ∀ l : List α, (∀ a ∈ l, f a = g a) -> l.flatMap f = l.flatMap g := by
 intro l
 induction l with
 | nil => intro _; rfl
 | cons a l ih => intro h; rw [List.flatMap_cons, List.flatMap_cons, h a (by simp), ih (fun b hb => h b (by simp [hb]))]
def visit (ms : List Node) : Nat -> Nat -> List Nat
 | 0, _ => []
 | n + 1, i => (kidsOf ms i).flatMap fun k => k :: (if dirOf ms k = true then visit ms n k else [])
def leafN (ks : List Node) (k : Nat) : LeafD := ⟨(nodeAt ks k).f.p, nam ks k, (nodeAt ks k).f, (nodeAt ks k).size, if (nodeAt ks k).f.dir || isLink (nodeAt ks k).f then [] else (nodeAt ks k).f.data.data.toList⟩
theorem IsoX.kidPath {fs : List File} {ns ks : List Node} {ds : List Nat} {img vol : List UInt8} {area next : Nat} (h : IsoX fs ns ks ds img vol area next) {i k : Nat} (hk : k ∈ kidsOf ks i) : kidPath (pts ks i) (nam ks k) = (nodeAt ks k).f.p /\ pts ks k = pts ks i ++ [nam ks k] := by
 obtain ⟨a, b, c, d⟩ := h.kid hk
 have h1 := (h.step k a b).1
 rw [c] at h1
 have h2 : (nodeAt ks k).f.p = joinP (pts ks k) := by
  have := path_pts h.fam k (by rw [<- h.sim.len]; exact b)
  rw [h.sim.f, h.sim.pts]; exact this
 refine ⟨?_, h1⟩
 rw [h2, h1]
 unfold YtilgpaeeleknhaaGreatDoor.kidPath
 split
 . next e => rw [e]; exact (joinP_one _).symm
 . next e => exact (joinP_snoc _ _ e).symm
theorem leaves_visit {fs : List File} {ns ks : List Node} {ds : List Nat} {img vol : List UInt8} {area next : Nat} (h : IsoX fs ns ks ds img vol area next) : ∀ n i, leavesF ks (treeX ks area) n (pts ks i) i = (visit ks n i).map (leafN ks) := by
 intro n
 induction n with
 | zero => intro i; rfl
 | succ n ih =>
   intro i
   unfold leavesF visit
   rw [List.map_flatMap]
   refine flat_congr _ (fun k hk => ?_)
   obtain ⟨h1, h2⟩ := h.kidPath hk
   have e1 : leafK ks (treeX ks area) (pts ks i) k = leafN ks k := by
    unfold leafK leafN
    show LeafD.mk (YtilgpaeeleknhaaGreatDoor.kidPath (pts ks i) (nam ks k)) _ _ _ _ = _
    rw [h1]; rfl
   have e2 : ((treeX ks area).kid k).nm = nam ks k := rfl
   rw [e1, e2, <- h2, List.map_cons]
   congr 1
   split
   . exact ih k
   . rfl
inductive Anc (ks : List Node) : Nat -> Nat -> Prop
 | kid (i k : Nat) (hk : k ∈ kidsOf ks i) : Anc ks i k
 | deep (i k j : Nat) (hk : k ∈ kidsOf ks i) (hd : dirOf ks k = true) (h : Anc ks k j) : Anc ks i j
theorem Anc.snoc {ks : List Node} {i p j : Nat} (h : Anc ks i p) (hd : dirOf ks p = true) (hj : j ∈ kidsOf ks p) : Anc ks i j := by
 induction h with
 | kid i k hk => exact .deep i k j hk hd (.kid k j hj)
 | deep i k _ hk hkd _ ih => exact .deep i k j hk hkd (ih hd hj)
theorem mem_visit {ks : List Node} : ∀ n i j, j ∈ visit ks n i -> Anc ks i j := by
 intro n
 induction n with
 | zero => intro i j h; cases h
 | succ n ih =>
   intro i j h
   unfold visit at h
   obtain ⟨k, hk, h⟩ := List.mem_flatMap.1 h
   rcases List.mem_cons.1 h with rfl | h
   . exact .kid i j hk
   . split at h
     . next hd => exact .deep i k j hk hd (ih k j h)
     . cases h
theorem IsoX.anc_visit {fs : List File} {ns ks : List Node} {ds : List Nat} {img vol : List UInt8} {area next : Nat} (h : IsoX fs ns ks ds img vol area next) : ∀ n i j, ks.length <= i + n -> Anc ks i j -> j ∈ visit ks n i := by
 intro n
 induction n with
 | zero =>
   intro i j hn ha
   cases ha with
   | kid _ _ hk => have := h.kid hk; omega
   | deep _ k _ hk _ _ => have := h.kid hk; omega
 | succ n ih =>
   intro i j hn ha
   unfold visit
   rw [List.mem_flatMap]
   cases ha with
   | kid _ _ hk => exact ⟨j, hk, by simp⟩
   | deep _ k _ hk hd ha =>
     obtain ⟨a, b, c, d⟩ := h.kid hk
     have := (h.step k a b).2.1
     rw [c] at this
     exact ⟨k, hk, List.mem_cons_of_mem _ (by rw [if_pos hd]; exact ih k j (by omega) ha)⟩
theorem IsoX.anc_pts {fs : List File} {ns ks : List Node} {ds : List Nat} {img vol : List UInt8} {area next : Nat} (h : IsoX fs ns ks ds img vol area next) {i j : Nat} (ha : Anc ks i j) : ∃ q r, pts ks j = pts ks i ++ q :: r /\ j < ks.length /\ 0 < j := by
 induction ha with
 | kid i k hk =>
   obtain ⟨a, b, c, d⟩ := h.kid hk
   have := (h.step k a b).1
   rw [c] at this
   exact ⟨nam ks k, [], this, b, a⟩
 | deep i k j hk _ _ ih =>
   obtain ⟨a, b, c, d⟩ := h.kid hk
   obtain ⟨q, r, e, h1, h2⟩ := ih
   have := (h.step k a b).1
   rw [c] at this
   exact ⟨nam ks k, q :: r, by rw [e, this, List.append_assoc]; rfl, h1, h2⟩
theorem IsoX.anc_root {fs : List File} {ns ks : List Node} {ds : List Nat} {img vol : List UInt8} {area next : Nat} (h : IsoX fs ns ks ds img vol area next) : ∀ n j, j < n -> 0 < j -> j < ks.length -> Anc ks 0 j := by
 intro n
 induction n with
 | zero => intro j hj; omega
 | succ n ih =>
   intro j hj h0 hl
   obtain ⟨h1, h2, h3, h4⟩ := h.step j h0 hl
   have hm : j ∈ kidsOf ks (parOf ks j) := by
    have hl2 := h.sim.len
    rw [h.sim.kids, h.sim.par]
    rw [h.sim.par] at h2
    exact (h.fam.kids _ (by omega) j).2 ⟨h0, by omega, rfl⟩
   rcases Nat.eq_zero_or_pos (parOf ks j) with e | hp
   . rw [e] at hm; exact .kid 0 j hm
   . exact (ih _ (by omega) hp (by omega)).snoc h3 hm
theorem IsoX.visit_nodup {fs : List File} {ns ks : List Node} {ds : List Nat} {img vol : List UInt8} {area next : Nat} (h : IsoX fs ns ks ds img vol area next) : ∀ n i, (visit ks n i).Nodup := by
 intro n
 induction n with
 | zero => intro i; exact List.nodup_nil
 | succ n ih =>
   intro i
   unfold visit
   rw [List.nodup_iff_pairwise_ne, List.pairwise_flatMap]
   have hin : ∀ k, k ∈ kidsOf ks i -> ∀ x ∈ (k :: (if dirOf ks k = true then visit ks n k else [])), ∃ r, pts ks x = pts ks i ++ nam ks k :: r := by
    intro k hk x hx
    obtain ⟨_, h2⟩ := h.kidPath hk
    rcases List.mem_cons.1 hx with rfl | hx
    . exact ⟨[], h2⟩
    . split at hx
      . obtain ⟨q, r, e, _⟩ := h.anc_pts (mem_visit n k x hx)
        exact ⟨q :: r, by rw [e, h2, List.append_assoc]; rfl⟩
      . cases hx
   constructor
   . intro k hk
     rw [List.pairwise_cons]
     constructor
     . intro x hx e
       subst e
       split at hx
       . obtain ⟨q, r, e, _⟩ := h.anc_pts (mem_visit n k k hx)
         have := congrArg List.length e
         simp at this
       . cases hx
     . split
       . exact List.nodup_iff_pairwise_ne.1 (ih k)
       . exact List.Pairwise.nil
   . refine List.Pairwise.imp_of_mem ?_ (List.nodup_iff_pairwise_ne.1 (h.nod i))
     intro k k' hk hk' hne x hx y hy e
     subst e
     obtain ⟨r, e1⟩ := hin k hk x hx
     obtain ⟨r', e2⟩ := hin k' hk' x hy
     rw [e1] at e2
     have := List.append_cancel_left e2
     injection this with this _
     exact hne (h.uniq i k' hk' k hk this)
structure LeavesOk (fs : List File) (ls : List LeafD) : Prop where
 len : ls.length = fs.length
 mem : ∀ f ∈ fs, ∃ d ∈ ls, d.path = f.p
 at' : ∀ d ∈ ls, d.f ∈ fs /\ d.path = d.f.p /\ d.nm = (cutLast d.f.p).2 /\ (d.f.dir = false -> isLink d.f = false -> d.s = d.f.data.size /\ d.data = d.f.data.data.toList)
theorem IsoX.leaves {fs : List File} {ns ks : List Node} {ds : List Nat} {img vol : List UInt8} {area next : Nat} (h : IsoX fs ns ks ds img vol area next) : LeavesOk fs (leavesF ks (treeX ks area) ks.length [] 0) := by
 have e : leavesF ks (treeX ks area) ks.length [] 0 = (visit ks ks.length 0).map (leafN ks) := leaves_visit h ks.length 0
 rw [e]
 have hmem : ∀ j, j ∈ visit ks ks.length 0 ↔ 0 < j /\ j < ks.length := by
  intro j
  constructor
  . intro hj
    obtain ⟨q, r, _, h1, h2⟩ := h.anc_pts (mem_visit _ _ _ hj)
    exact ⟨h2, h1⟩
  . rintro ⟨h0, hl⟩
    exact h.anc_visit _ _ _ (by omega) (h.anc_root (j + 1) j (Nat.lt_succ_self j) h0 hl)
 have hp : (visit ks ks.length 0).Perm ((List.range fs.length).map (· + 1)) := by
  refine (List.perm_ext_iff_of_nodup (h.visit_nodup _ _) ?_).2 fun j => ?_
  . rw [List.nodup_iff_pairwise_ne, List.pairwise_map]
    exact List.Pairwise.imp (fun h e => h (by simpa using e)) (List.nodup_iff_pairwise_ne.1 List.nodup_range)
  . rw [hmem, h.pos, List.mem_map]
    constructor
    . rintro ⟨a, b⟩; exact ⟨j - 1, List.mem_range.2 (by omega), by omega⟩
    . rintro ⟨a, b, rfl⟩; have := List.mem_range.1 b; omega
 refine ⟨by rw [List.length_map, hp.length_eq]; simp, fun f hf => ?_, fun d hd => ?_⟩
 . obtain ⟨k, hk, e⟩ := List.mem_iff_getElem.1 hf
   have := h.fam.file k hk
   rw [<- h.sim.f, List.getElem?_eq_getElem hk] at this
   have e2 : f = (nodeAt ks (k + 1)).f := by rw [<- e]; simpa using this
   refine ⟨leafN ks (k + 1), List.mem_map.2 ⟨k + 1, (hmem _).2 ⟨by omega, by rw [h.pos]; omega⟩, rfl⟩, ?_⟩
   rw [e2]; rfl
 . obtain ⟨k, hk, rfl⟩ := List.mem_map.1 hd
   obtain ⟨h0, hl⟩ := (hmem k).1 hk
   refine ⟨(h.file k h0 hl).1, rfl, rfl, fun h1 h2 => ⟨?_, ?_⟩⟩
   . have h1 : (nodeAt ks k).f.dir = false := h1
     have := (h.node k hl).2.1
     show (nodeAt ks k).size = (nodeAt ks k).f.data.size
     rw [this]
     unfold contentR
     rw [if_neg (show ¬ dirOf ks k = true by show ¬ (nodeAt ks k).f.dir = true; rw [h1]; decide), Array.length_toList]; rfl
   . have h1 : (nodeAt ks k).f.dir = false := h1
     have h2 : isLink (nodeAt ks k).f = false := h2
     show (if (nodeAt ks k).f.dir || isLink (nodeAt ks k).f then _ else _) = _
     rw [h1, h2]; rfl
theorem recLen_bd2 (n s : Nat) (h2 : n <= 10) (h3 : s <= 200) : 34 <= recLen n s + 1 /\ recLen n s <= 250 := by
 unfold recLen evn; split <;> split <;> omega
theorem recLen_lo (n s : Nat) (h1 : 1 <= n) : 34 <= recLen n s := by
 unfold recLen evn; split <;> split <;> omega
theorem dirBytesX_first (area : Nat) (ks : List Node) (i : Nat) (h : (selfX ks area i).r.bytes.length <= 2048) : ∃ t, dirBytesX area ks i = (selfX ks area i).r.bytes ++ t := by
 unfold dirBytesX
 rw [treeX_recs]
 unfold TreeX.recs
 rw [List.map_cons, List.foldl_cons]
 have e : addRec [] (RX.bytes ((treeX ks area).self i)) = (selfX ks area i).r.bytes := by
  show addRec [] (selfX ks area i).r.bytes = _
  unfold addRec; rw [if_neg (by simp; omega)]; rfl
 rw [e]
 obtain ⟨t, ht⟩ := recs_pre ((((treeX ks area).par i) :: (kidsOf ks i).map (treeX ks area).kid).map RX.bytes) (selfX ks area i).r.bytes
 obtain ⟨u, hu⟩ := padSec_pre (((((treeX ks area).par i) :: (kidsOf ks i).map (treeX ks area).kid).map RX.bytes).foldl addRec (selfX ks area i).r.bytes)
 exact ⟨t ++ u, by rw [hu, ht, List.append_assoc]⟩
theorem ns_mem {xs : List XNode} {n : Node} (h : n ∈ XNode.ns xs) : ∃ i, ∃ hi : i < xs.length, n = nodeAt (XNode.ns xs) i /\ n = (xs[i]).toNode := by
 obtain ⟨x, hx, rfl⟩ := List.mem_map.1 h
 obtain ⟨i, hi, rfl⟩ := List.mem_iff_getElem.1 hx
 exact ⟨i, hi, (nodeAt_ns xs i hi).symm, rfl⟩
structure MadeX (fs : List File) (os ks : List Node) (ds : List Nat) (img vol : List UInt8) (area next pt : Nat) : Prop where
 isoX : IsoX fs os ks ds img vol area next
 isoE : IsoE img vol (selfR ks 0) pt 18 ks ds
 dirs : ∀ i, i < ks.length -> dirOf ks i = true -> 34 <= (dirBytesX area ks i).length /\ (dirBytesX area ks i).length <= 1000000
 first : Holds img ((nodeAt ks 0).extent * 2048) (selfX ks area 0).r.bytes
 fits : (nodeAt ks 0).extent * 2048 + (selfX ks area 0).r.bytes.length <= img.length
theorem isoX_of {fs : List File} {ns ks : List Node} {ds : List Nat} {img vol : List UInt8} {area next : Nat} (hG : GoodX fs) (hr : ∀ f ∈ fs, RockF f) (hm : addFiles true [rootNode] fs = some ns) (hv : vol.length <= 32) (hL : LaidR true ns vol ks ds area next img) : ∃ os pt, MadeX fs os ks ds img vol area next pt := by
 obtain ⟨xo, xs, ys, L, ab, m1, hS, hRel, hSm, hOk, hN, hQ, hLL, he1, he2, himg⟩ := hL
 have hf : ∀ f ∈ fs, FileOk f := fun f h => ⟨(hr f h).path, (hr f h).data, by have := (hr f h).t0; omega, by have := (hr f h).t1; omega⟩
 have hT := hS.tree (addFiles_tree hm Tree.root)
 have hFx := hS.fam (addFiles_fam hm (Fam.start true))
 rw [List.nil_append] at hFx
 have hol : (XNode.ns xo).length = xo.length := by simp [XNode.ns]
 have hxl : (XNode.ns xs).length = xs.length := by simp [XNode.ns]
 have hxo : xs.length = xo.length := by have := hSm.len; omega
 have hyl : (XNode.ns ys).length = xs.length := by simp [XNode.ns, hN.1]
 have hfl := hFx.len
 have hc := hG.count
 have hOk0 := (okxs_of (by omega) hf hm hS).2
 have hfo : ∀ i, i < xo.length -> (nodeAt (XNode.ns xo) i).f = rootFile \/ (nodeAt (XNode.ns xo) i).f ∈ fs := by
  intro i hi
  rcases Nat.eq_zero_or_pos i with rfl | h0
  . exact .inl hFx.root.1
  . have := hFx.mem (i - 1) (by omega)
    rw [show i - 1 + 1 = i by omega] at this
    exact .inr this
 have hrl : ∀ n ∈ XNode.ns xo, (restF n.f).length <= 400 := by
  intro n hn
  obtain ⟨i, hi, e, _⟩ := ns_mem hn
  rw [e]
  rcases hfo i hi with h | h
  . rw [h]; decide
  . have := restF_len (hr _ h); omega
 have hRk : Rocked (XNode.ns xo) (XNode.ns xs) ab := by
  have h := rocked_of (XNode.ns xo) (by omega) (fun n hn => by
   obtain ⟨i, hi, _, e⟩ := ns_mem hn
   rw [e]; exact (hOk0 _ (List.getElem_mem hi)).2) hrl (fun n _ => restF_ne n.f)
  have e := hRel.1 rfl
  rw [e] at h
  exact h
 have hl1 : Like (XNode.ns ys) m1 := by have := extC_like (clenR true (XNode.ns ys)) (XNode.ns ys) (18 + blocks L + blocks L) ds; rw [he1] at this; exact this
 have hl2 : Like m1 ks := by have := extC_like (clenR true (XNode.ns ys)) m1 (area + blocks ab) (filesTo (XNode.ns ys) xs.length); rw [he2] at this; exact this
 have hlike := hl1.trans hl2
 have hkl : ks.length = xs.length := by rw [hlike.len, hyl]
 have hat : ∀ i, ∃ e s k, nodeAt ks i = { nodeAt (XNode.ns xs) i with extent := e, size := s, number := k } /\ (i ∈ ds -> i < xs.length -> k = ds.idxOf i + 1) := by
  intro i
  obtain ⟨e, s, h1⟩ := hlike.node i
  obtain ⟨k, h2, h3⟩ := num_at hN i
  exact ⟨e, s, k, by rw [h1, h2], h3⟩
 have hSk : Sim (XNode.ns xo) ks := by
  refine ⟨by omega, fun i => ?_, fun i => ?_, fun i => ?_, fun i => ?_⟩
  . obtain ⟨e, s, k, h2, _⟩ := hat i; rw [<- hSm.f, h2]
  . obtain ⟨e, s, k, h2, _⟩ := hat i; rw [<- hSm.id, h2]
  . obtain ⟨e, s, k, h2, _⟩ := hat i; rw [<- hSm.par]; show (nodeAt ks i).parent = (nodeAt (XNode.ns xs) i).parent; rw [h2]
  . obtain ⟨e, s, k, h2, _⟩ := hat i; rw [<- hSm.kids]; show (nodeAt ks i).kids = (nodeAt (XNode.ns xs) i).kids; rw [h2]
 have hsu : ∀ i, (nodeAt ks i).su = (nodeAt (XNode.ns xs) i).su /\ (nodeAt ks i).more = (nodeAt (XNode.ns xs) i).more /\ (nodeAt ks i).place = (nodeAt (XNode.ns xs) i).place := by
  intro i
  obtain ⟨e, s, k, h2, _⟩ := hat i; rw [h2]; exact ⟨rfl, rfl, rfl⟩
 have hA : AreaOk ks ab := by
  refine ⟨?_, fun i h0 hi hne => ?_, fun i j h0 hij hj hi2 hj2 => ?_⟩
  . rw [(hsu 0).2.2]; exact hRk.ok.er
  . rw [(hsu i).2.1] at hne ⊢
    rw [(hsu i).2.2, (hsu 0).2.2]
    exact hRk.ok.one i h0 (by omega) hne
  . rw [(hsu i).2.1] at hi2 ⊢
    rw [(hsu j).2.1] at hj2
    rw [(hsu i).2.2, (hsu j).2.2]
    exact hRk.ok.two i j h0 hij (by omega) hi2 hj2
 have hsuK : ∀ i, 0 < i -> i < ks.length -> ((nodeAt ks i).su = suF (nodeAt ks i).f ++ restF (nodeAt ks i).f /\ (nodeAt ks i).more = [] /\ 62 + (restF (nodeAt ks i).f).length <= 160) \/ ((nodeAt ks i).su = suF (nodeAt ks i).f /\ (nodeAt ks i).more = restF (nodeAt ks i).f /\ (nodeAt ks i).place % 2048 + (restF (nodeAt ks i).f).length <= 2048) := by
  intro i h0 hi
  rw [(hsu i).1, (hsu i).2.1, (hsu i).2.2, hSk.f]
  exact hRk.su i h0 (by omega)
 have hsu0 : (nodeAt ks 0).su = suF (nodeAt ks 0).f /\ (nodeAt ks 0).more = [] := by
  rw [(hsu 0).1, (hsu 0).2.1, hSk.f]; exact hRk.su0
 have hsul : ∀ i, (nodeAt ks i).su.length <= 160 := by
  intro i
  by_cases hi : i < ks.length
  . rcases Nat.eq_zero_or_pos i with rfl | h0
    . rw [hsu0.1, suF_len]; decide
    . rcases hsuK i h0 hi with ⟨a, _, b⟩ | ⟨a, _⟩
      . rw [a, List.length_append, suF_len]; exact b
      . rw [a, suF_len]; decide
  . rw [out_node (by omega)]; decide
 have hksl : ∀ i, kidSuLen (nodeAt ks i) <= 160 := by
  intro i
  unfold kidSuLen
  by_cases hi : i < ks.length
  . rcases Nat.eq_zero_or_pos i with rfl | h0
    . rw [hsu0.1, suF_len, if_pos hsu0.2]; decide
    . rcases hsuK i h0 hi with ⟨a, a2, b⟩ | ⟨a, _⟩
      . rw [a, List.length_append, suF_len, if_pos a2]; exact b
      . rw [a, suF_len]; split <;> decide
  . rw [out_node (by omega)]; decide
 have hkd : ∀ i, kidsOf ks i = kidsOf (XNode.ns xo) i := hSk.kids
 have hnod : ∀ i, (kidsOf ks i).Nodup := by
  intro i
  rw [hkd]
  by_cases hi : i < xo.length
  . exact hT.nodup i (by omega)
  . rw [show kidsOf (XNode.ns xo) i = (nodeAt (XNode.ns xo) i).kids from rfl, out_node (by omega)]
    exact List.nodup_nil
 have hkm : ∀ i, ∀ k ∈ kidsOf ks i, 0 < k /\ k < ks.length := by
  intro i k hk
  rw [hkd] at hk
  by_cases hi : i < xo.length
  . have := (hFx.kids i (by omega) k).1 hk; exact ⟨this.1, by omega⟩
  . rw [show kidsOf (XNode.ns xo) i = (nodeAt (XNode.ns xo) i).kids from rfl, out_node (by omega)] at hk
    cases hk
 have hkx : ∀ i, (kidsOf ks i).length <= 41 := by
  intro i
  have := List.Nodup.length_le_of_subset (hnod i) (l₂ := List.range ks.length) (fun x hx => List.mem_range.2 (hkm i x hx).2)
  rw [List.length_range] at this
  omega
 have hid : ∀ k, 0 < k -> k < ks.length -> (nodeAt ks k).id.data.toList.length = 7 \/ (nodeAt ks k).id.data.toList.length = 10 := by
  intro k h0 hk
  have := hFx.id (k - 1) (by omega)
  rw [show k - 1 + 1 = k by omega, <- hSk.id] at this
  rw [this]
  show (idOf true k _ _).length = 7 \/ (idOf true k _ _).length = 10
  unfold idOf
  simp only [if_true, List.length_append, List.length_cons, decs_length]
  split
  . exact .inl rfl
  . exact .inr rfl
 have hpid : ∀ d ∈ ds, 1 <= (pathId ks d).length /\ (pathId ks d).length <= 14 := by
  intro d hd
  unfold pathId
  split
  . decide
  . next h0 => have := hid d (by omega) (by have := hQ.lt d hd; omega); omega
 have hdl : ∀ i, 68 <= (dirBytesX 1 ks i).length /\ (dirBytesX 1 ks i).length <= 200000 := by
  intro i
  rw [dirBytesX_length]
  have hb : ∀ b ∈ (kidsOf ks i).map (fun k => recLen (nodeAt ks k).id.data.toList.length (kidSuLen (nodeAt ks k))), 34 <= b /\ b <= 250 := by
   intro b hb
   obtain ⟨k, hk, rfl⟩ := List.mem_map.1 hb
   obtain ⟨h1, h2⟩ := hkm i k hk
   have h3 := hid k h1 h2
   have h4 := hksl k
   exact ⟨recLen_lo _ _ (by omega), (recLen_bd2 _ _ (by omega) (by omega)).2⟩
  have hd1 : 34 <= recLen 1 (dotSuLen ks i) /\ recLen 1 (dotSuLen ks i) <= 250 := by
   refine ⟨recLen_lo _ _ (by decide), (recLen_bd2 _ _ (by decide) ?_).2⟩
   unfold dotSuLen
   have := hsul i
   split
   . next e => subst e; rw [hsu0.1, suF_len]; decide
   . omega
  have hd2 : 34 <= recLen 1 (nodeAt ks (parOf ks i)).su.length /\ recLen 1 (nodeAt ks (parOf ks i)).su.length <= 250 :=
   ⟨recLen_lo _ _ (by decide), (recLen_bd2 _ _ (by decide) (by have := hsul (parOf ks i); omega)).2⟩
  generalize recLen 1 (dotSuLen ks i) = a1 at hd1 ⊢
  generalize recLen 1 (nodeAt ks (parOf ks i)).su.length = a2 at hd2 ⊢
  have h4 : addLen (addLen 0 a1) a2 = a1 + a2 := by
   unfold addLen
   have e1 : ¬ 2048 < 0 % 2048 + a1 := by omega
   rw [if_neg e1]
   have e2 : ¬ 2048 < (0 + a1) % 2048 + a2 := by omega
   rw [if_neg e2]; omega
  have h1 := fold_bd _ (addLen (addLen 0 a1) a2) hb
  have h2 := hkx i
  have h3 := secUp_bd ((a1 :: a2 :: (kidsOf ks i).map (fun k => recLen (nodeAt ks k).id.data.toList.length (kidSuLen (nodeAt ks k)))).foldl addLen 0)
  simp only [List.foldl_cons] at h3 ⊢
  rw [List.length_map] at h1
  rw [h4] at h1 h3 ⊢
  omega
 have hdlA : ∀ i, (dirBytesX area ks i).length = (dirBytesX 1 ks i).length := fun i => (Like.refl ks).lenX area 1 i
 have hcl : ∀ i, i < ks.length -> clenR true ks i <= 200000 := by
  intro i hi
  unfold YtilgpaeeleknhaaGreatDoor.clenR
  split
  . exact (hdl i).2
  . next hd =>
    have h0 : 0 < i := by
     rcases Nat.eq_zero_or_pos i with h | h
     . subst h
       exfalso; apply hd
       show (nodeAt ks 0).f.dir = true
       rw [hSk.f, hFx.root.1]; rfl
     . exact h
    have := hFx.mem (i - 1) (by omega)
    rw [show i - 1 + 1 = i by omega, <- hSk.f] at this
    have := (hf _ this).data
    omega
 obtain ⟨ho1, ho2, _⟩ := order_ok hm hS hSm hN hQ
 have hpl : ds.length <= 41 := by have := hQ.le; omega
 have hLk : (pathsL ks true ds).length = L := by rw [hLL, pathsL_like hlike true true]
 have hLb := paths_bd ks ds (fun d hd => (hpid d hd).2)
 rw [hLk] at hLb
 have hd1 := hQ.head.1
 have hLbl : blocks L = 1 := by unfold blocks; omega
 have hol2 : (ds ++ filesTo (XNode.ns ys) xs.length).length <= 41 := by
  have := List.Nodup.length_le_of_subset ho1 (l₂ := List.range xs.length) (fun x hx => List.mem_range.2 ((ho2 x).1 hx))
  rw [List.length_range] at this
  omega
 rw [List.length_append] at hol2
 have hP := placed_of (clenR true (XNode.ns ys)) (XNode.ns ys) m1 ks (18 + blocks L + blocks L) area (blocks ab) next ds (filesTo (XNode.ns ys) xs.length) he1 he2 ho1 (fun i => by rw [hyl]; exact ho2 i)
 have hcx : ∀ i, i < ks.length -> clenR true (XNode.ns ys) i <= 200000 := fun i hi => by rw [<- hlike.clenR]; exact hcl i hi
 have hn1 := extC_bd (clenR true (XNode.ns ys)) (XNode.ns ys) (18 + blocks L + blocks L) ds (fun i hi => hcx i (by rw [hkl]; exact (ho2 i).1 (List.mem_append_left _ hi)))
 have hn2 := extC_bd (clenR true (XNode.ns ys)) m1 (area + blocks ab) (filesTo (XNode.ns ys) xs.length) (fun i hi => hcx i (by rw [hkl]; exact (ho2 i).1 (List.mem_append_right _ hi)))
 rw [he1] at hn1
 rw [he2] at hn2
 simp only at hn1 hn2
 have hbd := hRk.bd
 have hab : blocks ab <= 60 := by unfold blocks; omega
 have habl := blocks_le ab
 have hcc : ∀ i, i < ks.length -> (contentR true area ks i).length = clenR true (XNode.ns ys) i := fun i _ => by rw [contentR_len, hlike.clenR]
 have h0l : 0 < ks.length := by omega
 have hI := imageX_has (clenR true (XNode.ns ys)) ks area ab next (pvdB vol (isoRec [0] (nodeAt ks 0).extent (nodeAt ks 0).size (nodeAt ks 0).f.time true []) next L 18 (18 + blocks L)) term7 (pathsL ks true ds) (pathsL ks false ds) h0l (by rw [hLk]; exact hP) hA hcc (pvdB_length _ _ _ _ _ _ hv (isoRec_length _ _ _ _ _ _)) (by decide) (by rw [pathsL_like (Like.refl ks) false true])
 rw [<- himg] at hI
 have hlen := hI.len
 have hlo := hP.lo
 have hhi := hP.hi
 have her := hA.er
 have hroot : dirOf ks 0 = true := by show (nodeAt ks 0).f.dir = true; rw [hSk.f, hFx.root.1]; rfl
 have hnode : ∀ i, i < ks.length -> 20 <= (nodeAt ks i).extent /\ (nodeAt ks i).size = (contentR true area ks i).length /\ (nodeAt ks i).extent * 2048 + (nodeAt ks i).size <= img.length /\ (nodeAt ks i).extent <= 100000 /\ (img.drop ((nodeAt ks i).extent * 2048)).take (nodeAt ks i).size = contentR true area ks i := by
  intro i hi
  obtain ⟨a, b, c, _⟩ := hP.at' i hi
  have hb := blocks_le (clenR true (XNode.ns ys) i)
  have e := hcc i hi
  refine ⟨by omega, by omega, by rw [hlen]; omega, by omega, ?_⟩
  have h := (hI.node i hi).take
  rw [e, <- b] at h
  exact h
 have hX : IsoX fs (XNode.ns xo) ks ds img vol area next := by
  refine ⟨hG, hr, hFx, hSk, hsu0, hsuK, ?_, by omega, fun i h0 hi hne => hA.one i h0 hi hne, hI.er, hI.more, hnode, hnod, fun i => by have := hkx i; omega, hlen, by omega, by omega, by rw [hlen]; omega⟩
  rw [(hsu 0).2.2]; exact hRk.sec
 have hself := (rdX_self hX 0 h0l).ok.len2
 have hcont0 : contentR true area ks 0 = dirBytesX area ks 0 := by unfold contentR; rw [if_pos hroot]; rfl
 obtain ⟨tl, htl⟩ := dirBytesX_first area ks 0 (by omega)
 have hfirst : Holds img ((nodeAt ks 0).extent * 2048) (selfX ks area 0).r.bytes := by
  have h := hI.node 0 h0l
  rw [hcont0, htl] at h
  intro j hj
  rw [h j (by rw [List.length_append]; omega), List.getElem?_append_left hj]
 have hex : ∀ i, (nodeAt ks i).extent < 400000 := by
  intro i
  by_cases hi : i < ks.length
  . have := hnode i hi; omega
  . rw [out_node (by omega)]; decide
 have hsz0 : (nodeAt ks 0).size <= 200000 := by
  rw [(hnode 0 h0l).2.1, hcc 0 h0l]; exact hcx 0 h0l
 have hnu : ∀ i, (nodeAt ks i).number < 65536 := by
  intro i
  by_cases hi : i < ks.length
  . obtain ⟨e, s, k, h2, h3⟩ := hat i
    rw [h2]
    show k < 65536
    by_cases hd : i ∈ ds
    . rw [h3 hd (by omega)]
      have := List.idxOf_le_length (a := i) (l := ds); omega
    . obtain ⟨e', s', h4⟩ := hlike.node i
      have h5 : k = (nodeAt (XNode.ns ys) i).number := by
       have : (nodeAt ks i).number = k := by rw [h2]
       rw [<- this, h4]
      have hiy : i < ys.length := by rw [hN.1]; omega
      rw [h5, nodeAt_ns ys i hiy, hN.2 i (by omega) hiy]
      show (if i ∈ ds then ds.idxOf i + 1 else xs[i].number) < 65536
      rw [if_neg hd]
      have := (hOk.2 _ (List.getElem_mem (show i < xs.length by omega))).num
      omega
  . rw [out_node (by omega)]; decide
 have hsR : (selfR ks 0).Ok := ⟨by simp [selfR], by simp [selfR], by have := hex 0; show (nodeAt ks 0).extent < _; omega, by show (nodeAt ks 0).size < _; omega, rfl⟩
 refine ⟨XNode.ns xo, L, hX, ?_, fun i hi hd => ?_, hfirst, ?_⟩
 . have hp1 := hI.pvd.take
   rw [pvdB_length _ _ _ _ _ _ hv (isoRec_length _ _ _ _ _ _)] at hp1
   have ht0 := hI.term
   have hl0 := hI.pl.take
   rw [hLk] at hl0
   have hn0 := hnode 0 h0l
   have hdl0 := hdl 0
   have hsz : 68 <= (nodeAt ks 0).size := by rw [hn0.2.1, hcont0, hdlA]; exact hdl0.1
   refine ⟨by rw [hlen]; omega, ?_, ?_, ?_, hsR, rfl, hv, hLk.symm, ⟨by omega, by omega⟩, by rw [hlen]; omega, hl0, by decide, ⟨by omega, by omega⟩, fun d hd => by have := hpid d hd; omega, hex, hnu, rfl, rfl⟩
   . have h1 := hn0.2.2.1; have h2 := hn0.1
     have := (hP.at' 0 h0l)
     have hb := blocks_le (clenR true (XNode.ns ys) 0)
     rw [hlen]; omega
   . rw [show 32768 = 16 * 2048 from rfl, hp1]
     exact pvd_has vol _ next L 18 _ hv (isoRec_length _ _ _ _ _ _)
   . intro j hj
     rw [List.getElem?_take, if_pos (by rw [show ([255, 67, 68, 48, 48, 49, 1] : List UInt8).length = 7 from rfl] at hj; omega), List.getElem?_drop]
     have := ht0 j hj
     rw [Nat.zero_add]
     exact this
 . rw [hdlA]; have := hdl i; omega
 . have h1 := (hnode 0 h0l).2.2.1
   have h2 := (hnode 0 h0l).2.1
   rw [hcont0, htl, List.length_append] at h2
   omega
theorem ne_of_cell {w : World} {a b j : Nat} {u v : Value} (h1 : w.cell? ⟨a, j, none⟩ = some u) (h2 : w.cell? ⟨b, j, none⟩ = some v) (h : u ≠ v) : a ≠ b := by
 rintro rfl; rw [h1] at h2; exact h (Option.some.inj h2)
theorem fsX_fin {Z : World} {F M D PT RD g co n V E S : Nat} {img : List UInt8} {ms : List Node} {ds bs : List Nat} {r : Rec} {vs hv : Value} {ls : ByteArray} (h : ReadZ Z F M D PT RD g co n V img ms ds bs r vs hv true ls) (hH : HandV Z hv true) (hlen : img.length <= 1000000000) (hre : r.e = E) (hrs : r.s = S) : FsX (Z.setCell ⟨RD, 16, none⟩ (PB F)) F M D RD img E S := by
 have hc := h.ent.cells
 obtain ⟨x, a, X, c2, ht, hE⟩ := h.ent
 have r0 := ent_cell hE 0 _ rfl
 have r1 := ent_cell hE 1 _ rfl
 have r4 := ent_cell hE 4 _ rfl
 have hVR : V ≠ RD := ne_of_cell h.vol r1 (by intro e; cases e)
 have hFR : F ≠ RD := by rintro rfl; have := h.fs; rw [hE] at this; injection this with this; injection this with _ this; exact absurd this (by decide)
 unfold HandV at hH
 rw [if_pos rfl] at hH
 obtain ⟨g1, c1, R, rfl, hg, hR, e1, e2⟩ := hH
 have hgR : g1 ≠ RD := ne_of_cell e1 r0 (by intro e; cases e)
 have hRR : R ≠ RD := ne_of_cell e2 r4 (by intro e; injection e with _ e; exact absurd e (by decide))
 have ho : ∀ k j, k ≠ RD -> (Z.setCell ⟨RD, 16, none⟩ (PB F)).cell? ⟨k, j, none⟩ = Z.cell? ⟨k, j, none⟩ := fun k j hk => cell_set_o Z hk j 16 _
 have hsz : (Z.setCell ⟨RD, 16, none⟩ (PB F)).heap.size = Z.heap.size := by simp
 have cF : ∀ j v, (#[Value.pointer none, .string ⟨#[]⟩, .int .i64 n, .int .i64 0, .iface 107 (PB M), .int .i64 2048, vs, PB V, .pointer none, PB PT, PB RD, .bool true, .int .u8 0, .slice (some ⟨g1, 0, none⟩) 1 c1, .bool false, .pointer none, .pointer none] : Array Value)[j]? = some v -> (Z.setCell ⟨RD, 16, none⟩ (PB F)).cell? ⟨F, j, none⟩ = some v := fun j v hv => by
  rw [ho F j hFR]; simp only [World.cell?, h.fs]; simpa using hv
 have hRDl := Array.getElem?_eq_some_iff.1 hE
 have hb : (Z.setCell ⟨RD, 16, none⟩ (PB F)).heap[RD]? = _ := heap_setCell_same Z RD 16 _ 176 (PB F) hE
 have q1 := ent_cell (cs := (entC r x a (.pointer none) X c2).set 16 (PB F)) hb 1 _ rfl
 have q2 := ent_cell (cs := (entC r x a (.pointer none) X c2).set 16 (PB F)) hb 2 _ rfl
 have q16 := ent_cell (cs := (entC r x a (.pointer none) X c2).set 16 (PB F)) hb 16 _ rfl
 subst hre; subst hrs
 refine ⟨⟨cF 4 _ rfl, cF 5 _ rfl, cF 11 _ rfl, ⟨_, cF 13 _ rfl, ?_⟩, ⟨?_, ?_⟩, by rw [hsz]; exact h.mlt, by rw [hsz]; exact h.dlt, hlen⟩, cF 1 _ rfl, cF 14 _ rfl, cF 10 _ rfl, ⟨q1, q2, q16⟩, ⟨V, ls, cF 7 _ rfl, (ho V 1 hVR).trans h.vol⟩⟩
 . unfold HandV; rw [if_pos rfl]
   exact ⟨g1, c1, R, rfl, by rw [hsz]; exact hg, by rw [hsz]; exact hR, (ho g1 0 hgR).trans e1, (ho R 4 hRR).trans e2⟩
 . obtain ⟨c, h1, h2⟩ := h.mem.data
   exact ⟨c, h1, (ho M 0 h.mr).trans h2⟩
 . intro j u hu; rw [ho D j h.dr]; exact h.mem.bytes j u hu
theorem fsX_nil {W W' : World} {F M D RD x E S : Nat} {img : List UInt8} (h : FsX W F M D RD img E S) (hx : W.heap[x]? = some (.cells #[.nilFunc, .nilFunc, .nilFunc, .nilFunc] 76)) (hM : M ≠ x) (hD : D ≠ x) (ho : ∀ k, k ≠ x -> W'.heap[k]? = W.heap[k]?) (hs : W.heap.size <= W'.heap.size) : FsX W' F M D RD img E S := by
 have hcell : ∀ k j, k ≠ x -> W'.cell? ⟨k, j, none⟩ = W.cell? ⟨k, j, none⟩ := fun k j hk => by simp only [World.cell?, ho k hk]
 have x0 : W.cell? ⟨x, 0, none⟩ = some .nilFunc := by simp only [World.cell?, hx]; rfl
 have x1 : W.cell? ⟨x, 1, none⟩ = some .nilFunc := by simp only [World.cell?, hx]; rfl
 have x2 : W.cell? ⟨x, 2, none⟩ = some .nilFunc := by simp only [World.cell?, hx]; rfl
 have x4 : W.cell? ⟨x, 4, none⟩ = none := by simp only [World.cell?, hx]; rfl
 have hF : F ≠ x := ne_of_cell h.work x1 (by intro e; cases e)
 obtain ⟨hv, c13, hH⟩ := h.p.exts
 have hRD : RD ≠ x := ne_of_cell h.rootat.e x1 (by intro e; cases e)
 obtain ⟨V, s, l1, l2⟩ := h.lab
 have hV : V ≠ x := ne_of_cell l2 x1 (by intro e; cases e)
 unfold HandV at hH
 rw [if_pos rfl] at hH
 obtain ⟨g1, c1, R, rfl, hg, hR, e1, e2⟩ := hH
 have hgx : g1 ≠ x := ne_of_cell e1 x0 (by intro e; cases e)
 have hRx : R ≠ x := by rintro rfl; rw [x4] at e2; cases e2
 have lt : ∀ {a : Nat}, a < W.heap.size -> a < W'.heap.size := fun h => Nat.lt_of_lt_of_le h hs
 refine ⟨⟨(hcell F _ hF).trans h.p.back, (hcell F _ hF).trans h.p.blk, (hcell F _ hF).trans h.p.sus, ⟨_, (hcell F _ hF).trans c13, ?_⟩, ⟨?_, fun j u hu => (hcell D j hD).trans (h.p.mem.bytes j u hu)⟩, lt h.p.mlt, lt h.p.dlt, h.p.len⟩, (hcell F _ hF).trans h.work, (hcell F _ hF).trans h.jol, (hcell F _ hF).trans h.root, ⟨(hcell RD _ hRD).trans h.rootat.e, (hcell RD _ hRD).trans h.rootat.s, (hcell RD _ hRD).trans h.rootat.fs⟩, ⟨V, s, (hcell F _ hF).trans l1, (hcell V _ hV).trans l2⟩⟩
 . unfold HandV; rw [if_pos rfl]
   exact ⟨g1, c1, R, rfl, lt hg, lt hR, (hcell g1 0 hgx).trans e1, (hcell R 4 hRx).trans e2⟩
 . obtain ⟨c, q1, q2⟩ := h.p.mem.data
   exact ⟨c, q1, (hcell M 0 hM).trans q2⟩
theorem kidPath_join (qs : List (List UInt8)) (nm : List UInt8) : kidPath qs nm = joinP (qs ++ [nm]) := by
 unfold kidPath
 split
 . next e => subst e; exact (joinP_one _).symm
 . next e => exact (joinP_snoc _ _ e).symm
section
variable {fs : List File} {os ks : List Node} {ds : List Nat} {img vol : List UInt8} {area next : Nat}
theorem IsoX.pathOk (h : IsoX fs os ks ds img vol area next) (j : Nat) (h0 : 0 < j) (hj : j < ks.length) : (nodeAt ks j).f.p = joinP (pts ks j) /\ pts ks j ≠ [] /\ (∀ s ∈ pts ks j, GoodPart s /\ (92 : UInt8) ∉ s) /\ Lib.validD (joinP (pts ks j)) = true /\ (joinP (pts ks j)).length <= 900 /\ joinP (pts ks j) ≠ [46] := by
 obtain ⟨hf, hr⟩ := h.file j h0 hj
 have e : (nodeAt ks j).f.p = joinP (pts ks j) := by
  have := path_pts h.fam j (by rw [<- h.sim.len]; exact hj)
  rw [h.sim.f, h.sim.pts]; exact this
 have hne := pts_ne ks j (by omega)
 have hg := h.parts (j + 1) j (Nat.lt_succ_self j) hj
 refine ⟨e, hne, hg, by rw [<- e]; exact hr.valid, ?_, ?_⟩
 . rw [<- e]
   have := hr.path
   show (nodeAt ks j).f.path.data.toList.length <= 900
   rw [Array.length_toList]; exact this
 . intro e2
   have h1 := (h.step j h0 hj).1
   rw [h1] at e2
   have hgn := (hg (nam ks j) (by rw [h1]; simp)).1
   by_cases hp : pts ks (parOf ks j) = []
   . rw [hp, List.nil_append, joinP_one] at e2; exact hgn.dot e2
   . rw [joinP_snoc _ _ hp] at e2
     have : (47 : UInt8) ∈ ([46] : List UInt8) := by rw [<- e2]; simp
     simp at this
theorem tell_treeX (h : IsoX fs os ks ds img vol area next) (i : Nat) : tellX ((treeX ks area).recs ks i) = (kidsOf ks i).map (treeX ks area).kid := by
 unfold TreeX.recs tellX
 have h1 : (((treeX ks area).self i).r.self || ((treeX ks area).self i).r.par) = true := rfl
 have h2 : (((treeX ks area).par i).r.self || ((treeX ks area).par i).r.par) = true := rfl
 rw [List.filter_cons, h1, List.filter_cons, h2]
 simp only [Bool.not_true, Bool.false_eq_true, if_false]
 rw [List.filter_eq_self]
 intro r hr
 obtain ⟨k, hk, rfl⟩ := List.mem_map.1 hr
 obtain ⟨a, b, _⟩ := h.kid hk
 have hT := h.told k a b (h.idlen k a b)
 show (!((kidX ks area k).r.self || (kidX ks area k).r.par)) = true
 rw [hT.self, hT.par]; rfl
theorem find_treeX (h : IsoX fs os ks ds img vol area next) (i k : Nat) (hk : k ∈ kidsOf ks i) : ((treeX ks area).recs ks i).find? (openX (nam ks k)) = some (kidX ks area k) := by
 unfold TreeX.recs
 have h1 : openX (nam ks k) ((treeX ks area).self i) = false := rfl
 have h2 : openX (nam ks k) ((treeX ks area).par i) = false := rfl
 rw [List.find?_cons, h1, List.find?_cons, h2]
 simp only
 rw [List.find?_map, find_unique (i := k) hk]
 . rfl
 . obtain ⟨a, b, _⟩ := h.kid hk
   have hT := h.told k a b (h.idlen k a b)
   show openX (nam ks k) (kidX ks area k) = true
   unfold openX
   rw [hT.self, hT.par]
   simp [kidX]
 . intro k' hk' e
   have e : openX (nam ks k) (kidX ks area k') = true := e
   unfold openX at e
   simp only [Bool.and_eq_true, decide_eq_true_eq] at e
   exact h.uniq i k hk k' hk' e.2
theorem walkX_of {pt F M D RD Bc : Nat} {w0 : World} {E : Addr} (hM : MadeX fs os ks ds img vol area next pt) (hF : FsX w0 F M D RD img (nodeAt ks 0).extent (nodeAt ks 0).size) (hB : w0.cell? ⟨Bc, 0, none⟩ = some (PB F)) (hT : Tabs w0) (hG : w0.cell? ⟨0, 0, none⟩ = some (EofV E)) : WalkX ks (treeX ks area) F Bc M D img w0 := by
 have h := hM.isoX
 have hD := diskX_of h hM.dirs
 have hpos : 0 < ks.length := by have := h.pos; omega
 have hd0 : dirOf ks 0 = true := by show (nodeAt ks 0).f.dir = true; rw [h.root]; rfl
 have hlen := h.len
 have hnx := h.nxb
 have hdown : ∀ qs i, DownX ks (treeX ks area) 0 qs i -> pts ks i = qs /\ i < ks.length := by
  intro qs i hd
  have := h.down qs 0 i hpos hd
  rw [show pts ks 0 = [] from rfl, List.nil_append] at this
  exact this
 have hgood : ∀ i, i < ks.length -> ∀ s ∈ pts ks i, GoodPart s /\ (92 : UInt8) ∉ s := fun i hi => h.parts (i + 1) i (Nat.lt_succ_self i) hi
 have hjl : ∀ i, i < ks.length -> (joinP (pts ks i)).length <= 900 := by
  intro i hi
  rcases Nat.eq_zero_or_pos i with rfl | h0
  . rw [show pts ks 0 = [] from rfl]; decide
  . exact (h.pathOk i h0 hi).2.2.2.2.1
 have hkids : ∀ i, (kidsOf ks i).length <= 100 := h.cnt
 have hbl : ∀ {W : World}, Below w0.heap.size w0 W -> Bc < w0.heap.size /\ W.cell? ⟨Bc, 0, none⟩ = some (PB F) /\ W.cell? ⟨0, 0, none⟩ = some (EofV E) := fun {W} hb =>
  ⟨cell_lt hB, (hb.cell (p := ⟨Bc, 0, none⟩) (cell_lt hB)).trans hB, (hb.cell (p := ⟨0, 0, none⟩) (cell_lt hG)).trans hG⟩
 have hrd : ∀ i, i < ks.length -> dirOf ks i = true -> DownX ks (treeX ks area) 0 (pts ks i) i -> ∀ W, Below w0.heap.size w0 W -> Calls Tryz.prog 85 #[PB F, SV (pathQ (pts ks i))] W fun e w' => DirX W w' F ((treeX ks area).recs ks i) e := by
  intro i hi hd hdn W hb
  exact readDirX F M D RD i img ks (treeX ks area) (pts ks i) W (hF.later hb) hD hpos hd0 hi hd hdn (hgood i hi) (by have := hjl i hi; omega) (ofL (pathQ (pts ks i))) (by unfold pathQ; split <;> rfl)
 have hlist : ∀ i, i < ks.length -> dirOf ks i = true -> DownX ks (treeX ks area) 0 (pts ks i) i -> ∀ W, Below w0.heap.size w0 W -> Calls Tryz.prog 63 #[PB F, SV (pathQ (pts ks i))] W fun e w' => ListX W w' F ((kidsOf ks i).map (treeX ks area).kid) e := by
  intro i hi hd hdn W hb
  rw [<- tell_treeX h i]
  have hW := hF.later hb
  refine readDirX_any F _ _ W hW.lt hW.work (hD.cnt i hi) ?_ (fun W' hb' => hrd i hi hd hdn W' (hb.trans (hb'.mono hb.size)))
  rcases Nat.eq_zero_or_pos i with rfl | h0
  . exact vpath_dot W (hT.later hb)
  . obtain ⟨_, p2, p3, p4, p5, _⟩ := h.pathOk i h0 hi
    unfold pathQ; rw [if_neg p2]
    exact vpath_any (pts ks i) W p2 (fun s hs => (p3 s hs).1) (hT.later hb) p4 (by omega)
 have hdb : ∀ i k, i < ks.length -> k ∈ kidsOf ks i -> ∀ W, (Calls Tryz.prog 86 #[SV (kidPath (pts ks i) (nam ks k))] W fun e w' => e = .returned (SV (pathQ (pts ks i))) /\ Below W.heap.size W w') /\ (Calls Tryz.prog 87 #[SV (kidPath (pts ks i) (nam ks k))] W fun e w' => e = .returned (SV (nam ks k)) /\ w' = W) := by
  intro i k hi hk W
  obtain ⟨a, b, _⟩ := h.kid hk
  have hkp := (h.kidPath hk).2
  have hjk := hjl k b
  have hgk := hgood k b
  rw [hkp] at hjk hgk
  rw [kidPath_join]
  have hsz : (ofL (joinP (pts ks i ++ [nam ks k]))).size <= 1001 := by rw [size_ofL]; omega
  have hgn := (hgk (nam ks k) (by simp)).1
  constructor
  . have h1 := Tryz.path_Dir_rules (ofL (joinP (pts ks i ++ [nam ks k]))) W (by omega)
    have h2 := dir_join (pts ks i) (nam ks k) (fun t ht => (hgood i hi t ht).1) hgn
    rw [show (ofL (joinP (pts ks i ++ [nam ks k]))).data.toList = joinP (pts ks i ++ [nam ks k]) from rfl, h2] at h1
    exact h1
  . have h1 := Tryz.path_Base (ofL (joinP (pts ks i ++ [nam ks k]))) W (by omega)
    rw [show (ofL (joinP (pts ks i ++ [nam ks k]))).data.toList = joinP (pts ks i ++ [nam ks k]) from rfl, base_join (pts ks i) (nam ks k) hgn] at h1
    exact h1
 have hkid46 : ∀ i k, k ∈ kidsOf ks i -> kidPath (pts ks i) (nam ks k) ≠ [46] /\ kidPath (pts ks i) (nam ks k) = joinP (pts ks k) := by
  intro i k hk
  obtain ⟨a, b, _⟩ := h.kid hk
  have e := (h.kidPath hk).2
  rw [kidPath_join, <- e]
  exact ⟨(h.pathOk k a b).2.2.2.2.2, rfl⟩
 have hsz : ∀ k, k < ks.length -> (nodeAt ks k).size < 4294967296 := by
  intro k hk
  have := (h.node k hk).2.2.1
  omega
 refine ⟨hF.p, fun i k hk k' hk' e => h.uniq i k hk k' hk' e, fun i k hk => ?_, fun i k hk => ?_, fun qs i hd hq => ?_, fun qs i hd hi hdi W hb => ?_, fun qs i k hd hi hdi hk W hb => ?_, fun qs i k hd hi hdi hk hkd hkl W hb => ?_⟩
 . obtain ⟨a, b, _⟩ := h.kid hk
   exact ⟨h.told k a b (h.idlen k a b), hsz k b, (h.file k a b).2.dt⟩
 . obtain ⟨a, b, c, _⟩ := h.kid hk
   have := (h.step k a b).2.1
   omega
 . obtain ⟨e, hi⟩ := hdown qs i hd
   subst e
   have h0 : 0 < i := by
    rcases Nat.eq_zero_or_pos i with rfl | h0
    . exact absurd rfl hq
    . exact h0
   obtain ⟨_, _, _, _, p5, p6⟩ := h.pathOk i h0 hi
   exact ⟨p6, by omega⟩
 . obtain ⟨e, _⟩ := hdown qs i hd
   subst e
   exact hlist i hi hdi hd W hb
 . obtain ⟨e, _⟩ := hdown qs i hd
   subst e
   have hW := hF.later hb
   refine statX_any F M D img _ (ofL (pathQ (pts ks i))) (nam ks k) ((kidsOf ks i).map (treeX ks area).kid) (kidX ks area k) W hW.p (hkid46 i k hk).1 ?_ ?_ (List.mem_map.2 ⟨k, hk, rfl⟩) rfl ?_ (fun W' => (hdb i k hi hk W').1) (fun W' => (hdb i k hi hk W').2) (fun W' hb' => hlist i hi hdi hd W' (hb.trans (hb'.mono hb.size)))
   . have := hkids i; rw [List.length_map]; omega
   . intro x hx
     obtain ⟨k', hk', rfl⟩ := List.mem_map.1 hx
     obtain ⟨a, b, _⟩ := h.kid hk'
     exact ⟨_, h.told k' a b (h.idlen k' a b)⟩
   . intro x hx e
     obtain ⟨k', hk', rfl⟩ := List.mem_map.1 hx
     have := h.uniq i k hk k' hk' e
     subst this; rfl
 . obtain ⟨e, _⟩ := hdown qs i hd
   subst e
   obtain ⟨a, b, _⟩ := h.kid hk
   obtain ⟨n1, n2, n3, n4, n5⟩ := h.node k b
   have hW := hF.later hb
   obtain ⟨_, hBW, hGW⟩ := hbl hb
   have hrk := (h.file k a b).2
   have hcont : contentR true area ks k = (nodeAt ks k).f.data.data.toList := by
    unfold contentR
    rw [if_neg (show ¬ dirOf ks k = true by show ¬ (nodeAt ks k).f.dir = true; rw [hkd]; decide)]
   have hsd : (nodeAt ks k).size <= 60000 := by
    rw [n2, hcont, Array.length_toList]; exact hrk.data
   have h66 : ∀ W', Below W.heap.size W W' -> Calls Tryz.prog 66 #[PB F, .string (ofL (kidPath (pts ks i) (nam ks k)))] W' fun e w' => ∃ X b, e = .returned (.tuple #[.iface 113 (PB X), .nilIface]) /\ w'.heap[X]? = some (.cells (fileC b 0 false).toArray 118) /\ DirAt w' b (nodeAt ks k).extent (nodeAt ks k).size F /\ W'.heap.size <= X /\ Below W'.heap.size W' w' := by
    intro W' hb'
    have hbW' : Below w0.heap.size w0 W' := hb.trans (hb'.mono hb.size)
    have hWW := hF.later hbW'
    refine (openX_any F M D img _ (ofL (pathQ (pts ks i))) (nam ks k) ((treeX ks area).recs ks i) (kidX ks area k) W' hWW.p hWW.work (hkid46 i k hk).1 (hD.cnt i hi) ?_ (find_treeX h i k hk) hkd ?_ (fun W2 => (hdb i k hi hk W2).1) (fun W2 => (hdb i k hi hk W2).2) (fun W2 hb2 => hrd i hi hdi hd W2 (hbW'.trans (hb2.mono hbW'.size)))).mono ?_
    . intro x hx h1 h2
      unfold TreeX.recs at hx
      rcases List.mem_cons.1 hx with rfl | hx
      . exact absurd (show ((treeX ks area).self i).r.self = true from rfl) (by rw [h1]; decide)
      . rcases List.mem_cons.1 hx with rfl | hx
        . exact absurd (show ((treeX ks area).par i).r.par = true from rfl) (by rw [h2]; decide)
        . obtain ⟨k', hk', rfl⟩ := List.mem_map.1 hx
          obtain ⟨a', b', _⟩ := h.kid hk'
          exact ⟨_, h.told k' a' b' (h.idlen k' a' b')⟩
    . rw [(hkid46 i k hk).2]
      obtain ⟨_, p2, p3, p4, p5, _⟩ := h.pathOk k a b
      exact vpath_any (pts ks k) W' p2 (fun s hs => (p3 s hs).1) (hT.later hbW') p4 (by omega)
    . rintro e w' ⟨X, b', rfl, h1, h2, h3, h4⟩
      exact ⟨X, b', rfl, h1, h2.dirAt, h3, h4⟩
   have hfin : ofL ((img.drop ((nodeAt ks k).extent * 2048)).take (nodeAt ks k).size) = ofL (nodeAt ks k).f.data.data.toList := by rw [n5, hcont]
   show Calls Tryz.prog 65 #[.string (ofL (kidPath (pts ks i) (nam ks k))), .int .i64 0, .int .i64 (-1), PB Bc] W _
   by_cases hz : (nodeAt ks k).size = 0
   . refine (clo0X_any F M D Bc (nodeAt ks k).size (nodeAt ks k).extent E _ img W hW.p hBW hz (by omega) (by omega) n3 (by omega) hGW h66).mono ?_
     rintro e w' ⟨rfl, hb'⟩
     exact ⟨by rw [hfin], hb'⟩
   . refine (cloX_any F M D Bc (nodeAt ks k).size (nodeAt ks k).extent E _ img W hW.p hBW (by omega) (by omega) (by omega) n3 (by omega) hGW h66).mono ?_
     rintro e w' ⟨rfl, hb'⟩
     exact ⟨by rw [hfin], hb'⟩
end
section
variable {fs : List File} {os ks : List Node} {ds : List Nat} {img vol : List UInt8} {area next pt : Nat}
theorem MadeX.susp (hM : MadeX fs os ks ds img vol area next pt) (RD M D : Nat) (w : World) (hent : EntAt w RD (selfR ks 0) (.pointer none)) (hm : MemAt w M D img) (hMl : M < w.heap.size) (hDl : D < w.heap.size) :
 Calls Tryz.prog 81 #[PB RD, .iface 107 (PB M), .int .i64 2048] w fun e w' => ∃ X q qc, e = .returned (.tuple #[.bool true, .int .u8 0, .slice X q qc, .nilIface]) /\ HandV w' (.slice X q qc) true /\ Below w.heap.size w w' := by
 have h := hM.isoX
 have hpos : 0 < ks.length := by have := h.pos; omega
 have hx := rdX_self h 0 hpos
 have hlen := h.len
 have hnx := h.nxb
 have hn := h.node 0 hpos
 exact suspX_any RD M D (nodeAt ks 0).extent _ img (selfR ks 0) (selfX ks area 0).r (selfX ks area 0).fi (nodeAt ks 0).f (if (nodeAt ks 0).f.dir then 2 else 1) (nodeAt ks 0).f.time (.pointer none) w hent rfl hm hMl hDl (by omega) (by omega) hx.ok hx.cont rfl hM.fits hM.first.take
theorem isoOpenX_any (hM : MadeX fs os ks ds img vol area next pt) (E : Addr) (I n c : Nat) (w : World) (hrd : Rd w w.heap.size (.slice (some ⟨I, 0, none⟩) n c) img) (hn : img.length = n) (hT : Tabs w) (hG : w.cell? ⟨0, 0, none⟩ = some (EofV E)) :
 Calls Tryz.prog 12 #[.slice (some ⟨I, 0, none⟩) n c, .int .i64 2048] w fun e w' => ∃ lab A m c dls ls, e = .returned (.tuple #[.string lab, .slice A m c, .bool true, .bool true]) /\ LeavesC w' A dls ls /\ m = dls.length /\ LeavesOk fs dls /\ Below w.heap.size w w' := by
 have h := hM.isoX
 have hpos : 0 < ks.length := by have := h.pos; omega
 have hd0 : dirOf ks 0 = true := by show (nodeAt ks 0).f.dir = true; rw [h.root]; rfl
 have hlen := h.len
 have hnx := h.nxb
 have hlv := h.leaves
 have hfc := h.good.count
 refine (isoOpen_gen I n c img w (fun W F M D => ∃ RD, FsX W F M D RD img (nodeAt ks 0).extent (nodeAt ks 0).size) (fun w' A m k => ∃ dls ls, LeavesC w' A dls ls /\ m = dls.length /\ LeavesOk fs dls) (fun W W' F M D ⟨RD, h⟩ hb => ⟨RD, h.later hb⟩) ?_ (fun W F M D ⟨RD, h⟩ => h.lab) hrd hn (by omega) (fun W M D hW hm hMl hDl => ?_) (fun F M D Bc W hW ⟨RD, hF⟩ hB => ?_)).mono ?_
 . rintro W W' F M D x ⟨RD, h⟩ hx hM hD ho hs
   exact ⟨RD, fsX_nil h hx hM hD ho hs⟩
 . refine (read_gen M D n pt 18 img vol (selfR ks 0) ks ds true (fun W v => HandV W v true) (fun W W' v h hb => h.later hb) W hm hMl hDl hn hM.isoE (fun RD W' hb hent => ?_)).mono ?_
   . exact hM.susp RD M D W' hent (hm.keep hb hMl hDl) (Nat.lt_of_lt_of_le hMl hb.size) (Nat.lt_of_lt_of_le hDl hb.size)
   . rintro e w' ⟨F, PT, RD, Z, g, co, V, bs, vs, hv, ls, rfl, rfl, hZ, hH, hb⟩
     exact ⟨F, rfl, ⟨RD, fsX_fin hZ hH (by omega) rfl rfl⟩, hb⟩
 . have hX := walkX_of hM hF hB (hT.later hW) ((hW.cell (p := ⟨0, 0, none⟩) (cell_lt hG)).trans hG)
   refine (walkX_any ks (treeX ks area) F Bc M D img W hX ks.length [] 0 W none 0 0 [] [] (by omega) hpos hd0 (.nil 0) (Below.refl _ _) (World.ownsRow_nil W W.heap.size 39 15) LeafRow.nil (by rw [hlv.len]; omega)).mono ?_
   rintro e w' ⟨A', co', us', rfl, hO, hR, hb, _⟩
   rw [List.nil_append] at hR
   obtain ⟨ls, hC⟩ := leavesC_of hO (Nat.zero_add _) hR
   exact ⟨A', _, co', rfl, ⟨_, ls, hC, Nat.zero_add _, hlv⟩, hb⟩
 . rintro e w' ⟨lab, A, m, k, rfl, ⟨dls, ls, h1, h2, h3⟩, hb⟩
   exact ⟨lab, A, m, k, dls, ls, rfl, h1, h2, h3, hb⟩
end
end Go.Proofs.YtilgpaeeleknhaaGreatDoor
