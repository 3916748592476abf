/- A part of the proof of laws.FnIsoRock (see the last text). -/
import Derived.Test.YtilgpaeeleknhaaGreatDoorJr14
import Derived.Test.YtilgpaeeleknhaaGreatDoorJr16
set_option linter.unusedSimpArgs false
set_option linter.unusedVariables false
set_option maxRecDepth 1000000
set_option maxHeartbeats 8000000
namespace Go.Proofs.YtilgpaeeleknhaaGreatDoor
open Go Go.RowKit
theorem genH {c : Code} {Q : Exit -> Act -> World -> Prop} {a : Act} {w : World} (F : World -> Prop) (h : F w) (k : ∀ W, F W -> Code.wp Tryz.prog c Q a W) : Code.wp Tryz.prog c Q a w := k w h
def kidSu (area : Nat) (n : Node) : List UInt8 := if n.more = [] then n.su else n.su ++ ceB (area + n.place / 2048) (n.place % 2048) n.more.length
def dotSu (area : Nat) (ns : List Node) (i : Nat) : List UInt8 :=
 if i = 0 then suspB 83 80 [190, 239, 0] ++ (nodeAt ns i).su ++ ceB (area + (nodeAt ns 0).place / 2048) ((nodeAt ns 0).place % 2048) 157 else (nodeAt ns i).su
def dirRecsX (area : Nat) (ns : List Node) (i : Nat) : List (List UInt8) :=
 isoRec [0] (nodeAt ns i).extent (nodeAt ns i).size (nodeAt ns i).f.time true (dotSu area ns i) ::
 isoRec [1] (nodeAt ns (parOf ns i)).extent (nodeAt ns (parOf ns i)).size (nodeAt ns (parOf ns i)).f.time true (nodeAt ns (parOf ns i)).su ::
 (kidsOf ns i).map (fun k => isoRec (nodeAt ns k).id.data.toList (nodeAt ns k).extent (nodeAt ns k).size (nodeAt ns k).f.time (nodeAt ns k).f.dir (kidSu area (nodeAt ns k)))
def dirBytesX (area : Nat) (ns : List Node) (i : Nat) : List UInt8 := padSec ((dirRecsX area ns i).foldl addRec [])
theorem ce_len (x y z : Nat) : (ceB x y z).length = 28 := by unfold ceB; rw [suspB_len]; rfl
def kidSuLen (n : Node) : Nat := n.su.length + if n.more = [] then 0 else 28
theorem kidSu_len (area : Nat) (n : Node) : (kidSu area n).length = kidSuLen n := by
 unfold kidSu kidSuLen; split
 . rfl
 . rw [List.length_append, ce_len]
def dotSuLen (ns : List Node) (i : Nat) : Nat := (nodeAt ns i).su.length + if i = 0 then 35 else 0
theorem dotSu_len (area : Nat) (ns : List Node) (i : Nat) : (dotSu area ns i).length = dotSuLen ns i := by
 unfold dotSu dotSuLen; split
 . rw [List.length_append, List.length_append, ce_len]; show 7 + _ + 28 = _; omega
 . rfl
theorem dirBytesX_length (area : Nat) (ns : List Node) (i : Nat) : (dirBytesX area ns i).length = secUp ((recLen 1 (dotSuLen ns i) :: recLen 1 (nodeAt ns (parOf ns i)).su.length :: (kidsOf ns i).map (fun k => recLen (nodeAt ns k).id.data.toList.length (kidSuLen (nodeAt ns k)))).foldl addLen 0) := by
 unfold dirBytesX dirRecsX
 rw [padSec_length, recs_length]
 congr 2
 simp only [List.map_cons, isoRec_length, List.map_map, dotSu_len, List.length_singleton]
 congr 2
 apply List.map_congr_left
 intro k _
 show (isoRec _ _ _ _ _ _).length = _
 rw [isoRec_length, kidSu_len]
theorem Like.more {ns ms : List Node} (h : Like ns ms) (j : Nat) : (nodeAt ms j).more = (nodeAt ns j).more := by
 obtain ⟨e, s, he⟩ := h.node j; rw [he]
theorem Like.lenX {ns ms : List Node} (h : Like ns ms) (a b i : Nat) : (dirBytesX a ms i).length = (dirBytesX b ns i).length := by
 rw [dirBytesX_length, dirBytesX_length, h.kids, h.par]
 unfold dotSuLen kidSuLen
 rw [h.su, h.su]
 have : (fun k => recLen (nodeAt ms k).id.data.toList.length ((nodeAt ms k).su.length + if (nodeAt ms k).more = [] then 0 else 28)) = (fun k => recLen (nodeAt ns k).id.data.toList.length ((nodeAt ns k).su.length + if (nodeAt ns k).more = [] then 0 else 28)) := by
  funext k; rw [h.id, h.su, h.more]
 rw [this]
def recsR (rock : Bool) (area : Nat) (ns : List Node) (i : Nat) : List (List UInt8) := if rock then dirRecsX area ns i else dirRecs ns i
def dirBytesR (rock : Bool) (area : Nat) (ns : List Node) (i : Nat) : List UInt8 := padSec ((recsR rock area ns i).foldl addRec [])
theorem Like.lenR {rock : Bool} {ns ms : List Node} (h : Like ns ms) (a b i : Nat) : (dirBytesR rock a ms i).length = (dirBytesR rock b ns i).length := by
 cases rock with
 | true => exact h.lenX a b i
 | false =>
   show (dirBytes ms i).length = (dirBytes ns i).length
   rw [dirBytes_length, dirBytes_length, h.kids]
   have : (fun k => recLen (nodeAt ms k).id.data.toList.length (nodeAt ms k).su.length) = (fun k => recLen (nodeAt ns k).id.data.toList.length (nodeAt ns k).su.length) := by
    funext k; rw [h.id, h.su]
   rw [this]
def clenR (rock : Bool) (ns : List Node) (i : Nat) : Nat := if dirOf ns i then (dirBytesR rock 1 ns i).length else (nodeAt ns i).f.data.size
theorem Like.clenR {rock : Bool} {ns ms : List Node} (h : Like ns ms) (i : Nat) : clenR rock ms i = clenR rock ns i := by
 unfold YtilgpaeeleknhaaGreatDoor.clenR
 rw [h.dir, h.f, h.lenR 1 1]
def extC (c : Nat -> Nat) : List Node -> Nat -> List Nat -> List Node × Nat
 | ns, nx, [] => (ns, nx)
 | ns, nx, i :: l => extC c (setExt ns i nx (c i)) (nx + blocks (c i)) l
theorem extC_append (c : Nat -> Nat) (ns : List Node) (nx : Nat) (l m : List Nat) : extC c ns nx (l ++ m) = extC c (extC c ns nx l).1 (extC c ns nx l).2 m := by
 induction l generalizing ns nx with
 | nil => rfl
 | cons i l ih => simp only [List.cons_append, extC]; exact ih _ _
theorem extC_snoc {c : Nat -> Nat} {ns ms : List Node} {nx0 nx : Nat} {l : List Nat} {d : Nat} (h : extC c ns nx0 l = (ms, nx)) : extC c ns nx0 (l ++ [d]) = (setExt ms d nx (c d), nx + blocks (c d)) := by
 rw [extC_append, h]; rfl
theorem extC_like (c : Nat -> Nat) (ns : List Node) (nx : Nat) (l : List Nat) : Like ns (extC c ns nx l).1 := by
 induction l generalizing ns nx with
 | nil => exact Like.refl _
 | cons i l ih => exact (Like.setExt ns i nx _).trans (ih _ _)
theorem extC_le (c : Nat -> Nat) (ns : List Node) (nx : Nat) (l : List Nat) : nx <= (extC c ns nx l).2 := by
 induction l generalizing ns nx with
 | nil => exact Nat.le_refl _
 | cons i l ih => exact Nat.le_trans (Nat.le_add_right _ _) (ih _ _)
theorem extC_other (c : Nat -> Nat) (ns : List Node) (nx : Nat) (l : List Nat) (j : Nat) (hj : j ∉ l) : nodeAt (extC c ns nx l).1 j = nodeAt ns j := by
 induction l generalizing ns nx with
 | nil => rfl
 | cons i l ih =>
   simp only [List.mem_cons, not_or] at hj
   simp only [extC]
   rw [ih _ _ hj.2, nodeAt_setExt, if_neg (fun h => hj.1 h.1.symm)]
theorem extC_at (c : Nat -> Nat) (ns : List Node) (nx : Nat) (l : List Nat) (hn : l.Nodup) (hl : ∀ i ∈ l, i < ns.length) (i : Nat) (hi : i ∈ l) :
 nx <= (nodeAt (extC c ns nx l).1 i).extent /\ (nodeAt (extC c ns nx l).1 i).size = c i /\ (nodeAt (extC c ns nx l).1 i).extent + blocks (c i) <= (extC c ns nx l).2 := by
 induction l generalizing ns nx with
 | nil => cases hi
 | cons k l ih =>
   rw [List.nodup_cons] at hn
   simp only [extC]
   by_cases hik : i = k
   . subst hik
     rw [extC_other _ _ _ _ _ hn.1, nodeAt_setExt, if_pos ⟨rfl, hl i (by simp)⟩]
     exact ⟨Nat.le_refl _, rfl, extC_le _ _ _ _⟩
   . have hil : i ∈ l := by simpa [hik] using hi
     have := ih (setExt ns k nx (c k)) (nx + blocks (c k)) hn.2 (fun j hj => by rw [(Like.setExt ns k nx _).len]; exact hl j (List.mem_cons_of_mem _ hj)) hil
     exact ⟨Nat.le_trans (Nat.le_add_right _ _) this.1, this.2⟩
theorem extC_apart (c : Nat -> Nat) (ns : List Node) (nx : Nat) (l : List Nat) (hn : l.Nodup) (hl : ∀ i ∈ l, i < ns.length) (i j : Nat) (hi : i ∈ l) (hj : j ∈ l) (hij : i ≠ j) :
 (nodeAt (extC c ns nx l).1 i).extent + blocks (c i) <= (nodeAt (extC c ns nx l).1 j).extent \/ (nodeAt (extC c ns nx l).1 j).extent + blocks (c j) <= (nodeAt (extC c ns nx l).1 i).extent := by
 induction l generalizing ns nx with
 | nil => cases hi
 | cons k l ih =>
   rw [List.nodup_cons] at hn
   simp only [extC]
   have hl' : ∀ j ∈ l, j < (setExt ns k nx (c k)).length := fun j hj => by rw [(Like.setExt ns k nx _).len]; exact hl j (List.mem_cons_of_mem _ hj)
   have hmem : ∀ x, x ∈ k :: l -> x ≠ k -> x ∈ l := fun x hx hne => by rcases List.mem_cons.1 hx with h | h; exact absurd h hne; exact h
   by_cases hik : i = k
   . subst hik
     have := extC_at c (setExt ns i nx (c i)) (nx + blocks (c i)) l hn.2 hl' j (hmem j hj (fun h => hij h.symm))
     rw [extC_other _ _ _ _ _ hn.1, nodeAt_setExt, if_pos ⟨rfl, hl i (by simp)⟩]
     exact .inl this.1
   . by_cases hjk : j = k
     . subst hjk
       have := extC_at c (setExt ns j nx (c j)) (nx + blocks (c j)) l hn.2 hl' i (hmem i hi hik)
       rw [extC_other _ _ _ _ j hn.1, nodeAt_setExt, if_pos ⟨rfl, hl j (by simp)⟩]
       exact .inr this.1
     . exact ih (setExt ns k nx (c k)) (nx + blocks (c k)) hn.2 hl' (hmem i hi hik) (hmem j hj hjk)
theorem extC_bd (c : Nat -> Nat) (ns : List Node) (nx : Nat) (l : List Nat) (h : ∀ i ∈ l, c i <= 200000) : (extC c ns nx l).2 <= nx + 98 * l.length := by
 induction l generalizing ns nx with
 | nil => exact Nat.le_refl _
 | cons i l ih =>
   simp only [extC, List.length_cons]
   have h1 := ih (setExt ns i nx (c i)) (nx + blocks (c i)) (fun j hj => h j (List.mem_cons_of_mem _ hj))
   have h2 := h i (by simp)
   have h3 : blocks (c i) <= 98 := by unfold blocks; omega
   omega
def putAll (out : List UInt8) (l : List (Nat × List UInt8)) : List UInt8 := l.foldl (fun o x => splice o x.1 x.2) out
theorem putAll_snoc (out : List UInt8) (l : List (Nat × List UInt8)) (x : Nat × List UInt8) : putAll out (l ++ [x]) = splice (putAll out l) x.1 x.2 := by simp [putAll]
theorem layAll_put (out : List UInt8) (l : List (Nat × List UInt8)) : layAll out l = putAll out (l.map fun x => (x.1 * 2048, x.2)) := by
 induction l generalizing out with
 | nil => rfl
 | cons x l ih => exact ih _
theorem putAll_length (l : List (Nat × List UInt8)) (out : List UInt8) (h : ∀ x ∈ l, x.1 + x.2.length <= out.length) : (putAll out l).length = out.length := by
 induction l generalizing out with
 | nil => rfl
 | cons x l ih =>
   have e := length_splice out x.1 x.2 (h x (by simp))
   simp only [putAll, List.foldl_cons]
   exact (ih _ (fun y hy => by rw [e]; exact h y (by simp [hy]))).trans e
theorem putAll_keep (l : List (Nat × List UInt8)) (out : List UInt8) (h : ∀ x ∈ l, x.1 + x.2.length <= out.length) (a : Nat) (c : List UInt8) (hc : Holds out a c)
 (hd : ∀ x ∈ l, x.1 + x.2.length <= a \/ a + c.length <= x.1) : Holds (putAll out l) a c := by
 induction l generalizing out with
 | nil => exact hc
 | cons x l ih =>
   have e := length_splice out x.1 x.2 (h x (by simp))
   simp only [putAll, List.foldl_cons]
   exact ih _ (fun y hy => by rw [e]; exact h y (by simp [hy])) (hc.other _ _ (h x (by simp)) (hd x (by simp))) (fun y hy => hd y (by simp [hy]))
def Apart2 (x y : Nat × List UInt8) : Prop := y.1 + y.2.length <= x.1 \/ x.1 + x.2.length <= y.1
theorem putAll_holds (l : List (Nat × List UInt8)) (out : List UInt8) (h : ∀ x ∈ l, x.1 + x.2.length <= out.length)
 (hp : l.Pairwise Apart2) (x : Nat × List UInt8) (hx : x ∈ l) : Holds (putAll out l) x.1 x.2 := by
 induction l generalizing out with
 | nil => cases hx
 | cons y l ih =>
   have e := length_splice out y.1 y.2 (h y (by simp))
   have h' : ∀ z ∈ l, z.1 + z.2.length <= (splice out y.1 y.2).length := fun z hz => by rw [e]; exact h z (by simp [hz])
   rw [List.pairwise_cons] at hp
   simp only [putAll, List.foldl_cons]
   rcases List.mem_cons.1 hx with rfl | hx
   . exact putAll_keep l _ h' _ _ (Holds.here _ _ _ (h x (by simp))) (fun z hz => hp.1 z hz)
   . exact ih _ h' hp.2 hx
def contentR (rock : Bool) (area : Nat) (ns : List Node) (i : Nat) : List UInt8 := if dirOf ns i then dirBytesR rock area ns i else (nodeAt ns i).f.data.data.toList
theorem contentR_len (rock : Bool) (area : Nat) (ns : List Node) (i : Nat) : (contentR rock area ns i).length = clenR rock ns i := by
 unfold contentR YtilgpaeeleknhaaGreatDoor.clenR
 split
 . exact (Like.refl ns).lenR area 1 i
 . rw [Array.length_toList]; rfl
def areaLay (rock : Bool) (ks : List Node) (area i : Nat) : List (Nat × List UInt8) :=
 if i = 0 /\ rock = true then [(area * 2048 + (nodeAt ks 0).place, erB)] else if (nodeAt ks i).more = [] then [] else [(area * 2048 + (nodeAt ks i).place, (nodeAt ks i).more)]
def nodeLaysR (rock : Bool) (ks : List Node) (area t : Nat) : List (Nat × List UInt8) := (List.range t).map (fun i => ((nodeAt ks i).extent * 2048, contentR rock area ks i))
def areaLays (rock : Bool) (ks : List Node) (area t : Nat) : List (Nat × List UInt8) := (List.range t).flatMap (areaLay rock ks area)
theorem nodeLaysR_succ (rock : Bool) (ks : List Node) (area t : Nat) : nodeLaysR rock ks area (t + 1) = nodeLaysR rock ks area t ++ [((nodeAt ks t).extent * 2048, contentR rock area ks t)] := by
 unfold nodeLaysR; rw [List.range_succ, List.map_append]; rfl
theorem areaLays_succ (rock : Bool) (ks : List Node) (area t : Nat) : areaLays rock ks area (t + 1) = areaLays rock ks area t ++ areaLay rock ks area t := by
 unfold areaLays; rw [List.range_succ, List.flatMap_append]; simp
def laysR (rock : Bool) (ks : List Node) (area : Nat) (pvd term pl pb : List UInt8) : List (Nat × List UInt8) :=
 [(16 * 2048, pvd), (17 * 2048, term), (18 * 2048, pl), ((18 + blocks pl.length) * 2048, pb)] ++ nodeLaysR rock ks area ks.length ++ areaLays rock ks area ks.length
def imageR (rock : Bool) (ks : List Node) (area next : Nat) (pvd term pl pb : List UInt8) : List UInt8 := putAll (zeros (next * 2048)) (laysR rock ks area pvd term pl pb)
theorem wrap_u32' (n : Nat) (h : n < 4294967296) : IntKind.u32.wrap (n : Int) = (n : Int) := by
 simp only [IntKind.wrap, IntKind.bits, IntKind.signed, Bool.false_and, Bool.false_eq_true, if_false]; omega
theorem nd_cell {w : World} {b : Nat} {cs : List Value} {t : TypeId} (h : w.heap[b]? = some (.cells cs.toArray t)) (k : Nat) (v : Value) (hv : cs[k]? = some v) : w.cell? ⟨b, k, none⟩ = some v := by
 simp only [World.cell?, h]
 simpa using hv
theorem own_lit0 {W : World} {B b : Nat} (h : W.heap[b]? = some (.cells #[] 5)) (hB : B <= b) : Own W B (.slice (some ⟨b, 0, none⟩) 0 0) [] :=
 ⟨by simp [BVs], .inr ⟨b, 0, #[], rfl, hB, h, Nat.le_refl _, by unfold maxLen; omega, by simp, by simp [BVs]⟩⟩
theorem su_gen (x : XNode) (Ab B area p m : Nat) (w : World) (hA : w.cell? ⟨Ab, 0, none⟩ = some (.int .u32 area)) (hO : Own w B (.slice x.sa x.su.length x.sc) x.su) (hsl : x.su.length <= 1000) (hp : x.place = p) (hp2 : p <= 200000) (ha : area <= 200000) (hm : x.more.length = m) (hm2 : m <= 1000) :
 Calls Tryz.prog 54 #[.agg x.cells.toArray, .pointer (some ⟨Ab, 0, none⟩)] w fun e w' => (∃ v, e = .returned v /\ Rd w' w'.heap.size v (kidSu area x.toNode)) /\ Below w.heap.size w w' := by
 by_cases h0 : m = 0
 . have hme : x.more = [] := List.eq_nil_of_length_eq_zero (by omega)
   have e : kidSu area x.toNode = x.su := by unfold kidSu; rw [show x.toNode.more = x.more from rfl, hme, if_pos rfl]
   have hm0 : x.more.length = 0 := by omega
   have hb : Below w.heap.size w (w.alloc (.cells x.cells.toArray 64)) := (Below.refl _ _).alloc (Nat.le_refl _) _
   have hR := (hO.later hb).rd
   rw [e]
   have HR := Lib.hid hR; have HB := Lib.hid hb
   clear hO hR hb e hme
   go_enter Tryz.func54, Tryz.ntmps54
   go_wp2_with (fail)
   go_ret
   exact ⟨⟨_, rfl, HR.out⟩, HB.out⟩
 . have hme : x.more ≠ [] := by intro e; rw [e] at hm; exact h0 hm.symm
   have e : kidSu area x.toNode = x.su ++ ceB (area + p / 2048) (p % 2048) m := by
    unfold kidSu; rw [show x.toNode.more = x.more from rfl, if_neg hme, show x.toNode.place = x.place from rfl, hp, hm]
   rw [e]
   have hb : Below w.heap.size w (w.alloc (.cells x.cells.toArray 64)) := (Below.refl _ _).alloc (Nat.le_refl _) _
   have hX : (w.alloc (.cells x.cells.toArray 64)).heap[w.heap.size]? = some (.cells x.cells.toArray 64) := by show (w.heap.push _)[w.heap.size]? = _; rw [Array.getElem?_push_size]
   have k6 : (w.alloc (.cells x.cells.toArray 64)).cell? ⟨w.heap.size, 13, none⟩ = some (.slice x.sa x.su.length x.sc) := nd_cell hX 13 _ rfl
   have k7 : (w.alloc (.cells x.cells.toArray 64)).cell? ⟨w.heap.size, 14, none⟩ = some (.slice x.ma m x.mc) := by rw [<- hm]; exact nd_cell hX 14 _ rfl
   have k8 : (w.alloc (.cells x.cells.toArray 64)).cell? ⟨w.heap.size, 15, none⟩ = some (.int .u32 p) := by rw [<- hp]; exact nd_cell hX 15 _ rfl
   have kA : (w.alloc (.cells x.cells.toArray 64)).cell? ⟨Ab, 0, none⟩ = some (.int .u32 area) := (hb.cell (p := ⟨Ab, 0, none⟩) (World.block_lt_of_cell? _ _ hA)).trans hA
   have hm0 : ¬ x.more.length = 0 := by omega
   have HB := Lib.hid hb; have HO := Lib.hid (hO.later hb)
   clear hX hme e hO hb
   go_enter Tryz.func54, Tryz.ntmps54
   go_upto_region 3 with (fail)
   have hcur0 : Below w.heap.size w (w.alloc (.cells x.cells.toArray 64)) := HB.out
   have hN : w.heap.size < (w.alloc (.cells x.cells.toArray 64)).heap.size := by simp
   generalize w.alloc (.cells x.cells.toArray 64) = wA at k6 k7 k8 kA HO hcur0 hN HB ⊢
   have hstay : Below wA.heap.size wA wA.drew := (Below.refl _ _).drew
   have hAl : Ab < wA.heap.size := World.block_lt_of_cell? _ _ kA
   obtain ⟨N, hNe⟩ : ∃ N, w.heap.size = N := ⟨_, rfl⟩
   rw [hNe] at k6 k7 k8 hN hcur0 ⊢
   have HNE := Lib.hid hNe
   clear hNe HB
   have kk : ∀ W, Below wA.heap.size wA W -> W.cell? ⟨N, 13, none⟩ = some (.slice x.sa x.su.length x.sc) /\ W.cell? ⟨N, 14, none⟩ = some (.slice x.ma m x.mc) /\ W.cell? ⟨N, 15, none⟩ = some (.int .u32 p) /\ W.cell? ⟨Ab, 0, none⟩ = some (.int .u32 area) := fun W h => ⟨(h.cell (p := ⟨N, 13, none⟩) hN).trans k6, (h.cell (p := ⟨N, 14, none⟩) hN).trans k7, (h.cell (p := ⟨N, 15, none⟩) hN).trans k8, (h.cell (p := ⟨Ab, 0, none⟩) hAl).trans kA⟩
   have KK := Lib.hid kk
   have HRK := Lib.hid (fun W (h : Below wA.heap.size wA W) => HO.out.rd.keep h (Nat.le_refl _))
   have z1 : IntKind.u32.wrap ((p : Int) / 2048) = (p : Int) / 2048 := wrap_u32' (p / 2048) (by omega)
   have z2 : IntKind.u32.wrap ((area : Int) + (p : Int) / 2048) = (area : Int) + (p : Int) / 2048 := wrap_u32' (area + p / 2048) (by omega)
   have z3 : (p : Int).tmod 2048 = (p : Int) % 2048 := by rw [Int.tmod_eq_emod_of_nonneg (by omega)]
   have z4 : IntKind.u32.wrap (m : Int) = (m : Int) := wrap_u32' m (by omega)
   have E2 := Lib.hid (show (area : Int) + (p : Int) / 2048 = ((area + p / 2048 : Nat) : Int) from by omega)
   have E3 := Lib.hid (show (p : Int) % 2048 = ((p % 2048 : Nat) : Int) from by omega)
   have hal : Below wA.heap.size wA (wA.alloc (.cells #[] 5)).drew := ((Below.refl wA.heap.size wA).alloc (Nat.le_refl _) _).drew
   have hla : (wA.alloc (.cells #[] 5)).drew.heap[wA.heap.size]? = some (.cells #[] 5) := by show (wA.heap.push _)[wA.heap.size]? = _; rw [Array.getElem?_push_size]
   go_region_held3 (fun W => W.cell? ⟨N, 13, none⟩ = some (.slice x.sa x.su.length x.sc) /\ W.cell? ⟨N, 14, none⟩ = some (.slice x.ma m x.mc) /\ W.cell? ⟨N, 15, none⟩ = some (.int .u32 p) /\ W.cell? ⟨Ab, 0, none⟩ = some (.int .u32 area)) (first | exact ⟨k6, k7, k8, kA⟩ | exact KK.out _ hst6 | exact KK.out _ hst | exact KK.out _ hst2 | exact KK.out _ hal | exact KK.out _ hstay) (first
    | (refine asStep rfl ?_; refine go_appB (w0 := wA) (.tmp 13) (.tmp 26) rfl wA.heap.size _ _ _ L2 (ceB (area + p / 2048) (p % 2048) m) rfl ho2 rfl ho5.rd (by rw [ce_len]; simp at hl2; omega) hst (Nat.le_refl _) ?_; rintro A6 c6 w6 L6 hL6 hl6 hl6' ho6 hst6 hg6)
    | (go_at_call 55; go_must (rw [E2.out, E3.out]); go_must (refine (rockCE_any (area + p / 2048) (p % 2048) m _ (by omega) (by omega) (by omega)).mono ?_); go_must (rintro e u5 ⟨⟨v5, rfl, ho5⟩, hx5⟩); have hst := hst2.trans (hx5.mono hst2.size); have ho2 := ho2.later hx5)
    | (refine asStep rfl ?_; refine go_appB (w0 := wA) (.tmp 10) (.tmp 12) rfl wA.heap.size wA.heap.size _ _ [] x.su rfl (own_lit0 hla (Nat.le_refl _)) rfl (HRK.out _ hal) (by simp; omega) hal (Nat.le_refl _) ?_; rintro A2 c2 w2 L2 hL2 hl2 hl2' ho2 hst2 hg2))
   clear z1 z2 z3 z4
   go_wp2_with (fail)
   go_ret
   refine ⟨⟨_, rfl, ?_⟩, by rw [HNE.out]; exact hcur0.trans (hst6.mono (Nat.le_of_lt hN))⟩
   have e2 : L6 = x.su ++ ceB (area + p / 2048) (p % 2048) m := by rw [hL6.out, hL2.out]; rfl
   rw [<- e2]
   exact ho6.rd
theorem lay_any (B B' V O N q blk : Nat) (y : Value) (l m : List UInt8) (w : World) (hV : w.cell? ⟨V, 0, none⟩ = some (.slice (some ⟨O, 0, none⟩) N N)) (hN : N = l.length) (hown : Own w B (.slice (some ⟨O, 0, none⟩) N N) l) (hq : m.length = q) (hrd : Rd w B' y m) (hfit : blk * 2048 + q <= N) (hN1 : N <= 1000000000) (hb : blk < 4294967296) :
 Calls Tryz.prog 34 #[.int .u32 blk, y, .pointer (some ⟨V, 0, none⟩)] w fun e w' => e = .returned (.tuple #[]) /\ Own w' B (.slice (some ⟨O, 0, none⟩) N N) (splice l (blk * 2048) m) /\ w.grownBy w' (some O) /\ Below B w w' := by
 have HN := Lib.hid hN; have HO := Lib.hid hown; have HQ := Lib.hid hq; have HR := Lib.hid hrd
 clear hN hown hq hrd
 go_enter Tryz.func34, Tryz.ntmps34
 by_cases hlt : blk * 2048 < N
 . go_wp2_with (refine atCopy ?_; refine asList rfl fun KK hKK => ?_; refine wp_copyB_of Tryz.underlying27 info5 (.tmp 9) (.tmp 10) rfl B B' O (blk * 2048) N (N - blk * 2048) (N - blk * 2048) l m y ?_ (by rw [<- HN.out]; exact HO.out) (by rw [HQ.out]; omega) (by rw [HQ.out, <- HN.out]; exact hfit) rfl HR.out ?_; rotate_left; intro w1 L1 hL1 hl1 hl1' hO1 hb1 hg1; refine hKK _ _ ?_; clear hKK KK)
   . refine bodyPost_end (v := .tuple #[]) (by simp [results, Tryz.f34]) rfl ⟨rfl, ?_, hg1, hb1⟩
     have e := hL1.out
     subst e
     have el : N = (splice l (blk * 2048) m).length := by rw [length_splice _ _ _ (by rw [HQ.out, <- HN.out]; exact hfit)]; exact HN.out
     rw [<- el] at hO1
     exact hO1
   . rfl
 . have hbN : blk * 2048 = N := by omega
   have hq0 : q = 0 := by omega
   go_wp2_with (refine atCopy ?_; refine asList rfl fun KK hKK => ?_; refine wp_copyB_of Tryz.underlying27 info5 (.tmp 9) (.tmp 10) rfl B B' O 0 N 0 0 l m y ?_ (by rw [<- HN.out]; exact HO.out) (by rw [HQ.out]; omega) (by rw [HQ.out, <- HN.out]; omega) rfl HR.out ?_; rotate_left; intro w1 L1 hL1 hl1 hl1' hO1 hb1 hg1; refine hKK _ _ ?_; clear hKK KK)
   . refine bodyPost_end (v := .tuple #[]) (by simp [results, Tryz.f34]) rfl ⟨rfl, ?_, hg1, hb1⟩
     have hm0 : m = [] := List.eq_nil_of_length_eq_zero (by rw [HQ.out]; exact hq0)
     have e := hL1.out
     subst hm0
     have e1 : splice l 0 ([] : List UInt8) = l := by simp [splice]
     have e2 : splice l N ([] : List UInt8) = l := by simp [splice]
     rw [e1] at e
     subst e
     rw [e2]
     rw [<- HN.out] at hO1
     exact hO1
   . show Value.slice _ (N - blk * 2048) (N - blk * 2048) = _
     rw [show N - blk * 2048 = 0 by omega]
theorem NodesW.range {w : World} {B g n c : Nat} {xs : List XNode} (h : NodesW w B (.slice (some ⟨g, 0, none⟩) n c) xs) (i : Nat) (hi : i < xs.length) : w.rangeAt g (i * 18) xs[i].cells := fun j u hu => h.cells i hi j u hu
theorem NodesW.kid {w : World} {B g n c : Nat} {xs : List XNode} (h : NodesW w B (.slice (some ⟨g, 0, none⟩) n c) xs) (i : Nat) (hi : i < xs.length) (j : Nat) (hj : j < xs[i].kids.length) :
 ∃ gk, xs[i].ka = some ⟨gk, 0, none⟩ /\ w.cell? ⟨gk, j, none⟩ = some (.int .i64 (xs[i].kids.getD j 0)) /\ gk < w.heap.size := by
 have hO : OwnI w B (.slice xs[i].ka xs[i].kids.length xs[i].kc) xs[i].kids := h.kids _ (List.getElem_mem hi)
 obtain ⟨gk, e, hc⟩ := hO.cell j hj
 refine ⟨gk, e, hc, ?_⟩
 have := h.bound.2 _ (List.getElem_mem hi)
 exact this.1 _ e
theorem two_rows {W : World} {z z' cs ds : Array Value} {t : TypeId} {n : Nat} (hn : W.heap.size = n) : (((W.alloc (.cells z t)).alloc (.cells z' t)).setRow n cs).setRow (n + 1) ds = (W.alloc (.cells cs t)).alloc (.cells ds t) := by
 subst hn
 unfold World.setRow World.alloc; congr 1; apply Array.ext
 . simp
 . intro i h1 h2
   simp only [Array.getElem_modify, Array.getElem_push]
   simp only [Array.size_modify, Array.size_push] at h1 h2 ⊢
   by_cases hi : i = W.heap.size + 1
   . subst hi; simp
   . by_cases hi2 : i = W.heap.size
     . subst hi2; simp
     . have h3 : i < W.heap.size := by omega
       have a1 : ¬ W.heap.size + 1 = i := fun e => hi e.symm
       have a2 : ¬ W.heap.size = i := fun e => hi2 e.symm
       have a3 : i < W.heap.size + 1 := by omega
       simp [a1, a2, a3, h3]
theorem two_rows' {W : World} {z z' cs ds : Array Value} {t : TypeId} {n : Nat} (hn : W.heap.size = n) : (((W.alloc (.cells z t)).alloc (.cells z' t)).setRow (n + 1) cs).setRow n ds = (W.alloc (.cells ds t)).alloc (.cells cs t) := by
 subst hn
 unfold World.setRow World.alloc; congr 1; apply Array.ext
 . simp
 . intro i h1 h2
   simp only [Array.getElem_modify, Array.getElem_push]
   simp only [Array.size_modify, Array.size_push] at h1 h2 ⊢
   by_cases hi : i = W.heap.size + 1
   . subst hi; simp
   . by_cases hi2 : i = W.heap.size
     . subst hi2; simp
     . have h3 : i < W.heap.size := by omega
       have a1 : ¬ W.heap.size + 1 = i := fun e => hi e.symm
       have a2 : ¬ W.heap.size = i := fun e => hi2 e.symm
       have a3 : i < W.heap.size + 1 := by omega
       simp [a1, a2, a3, h3]
theorem setRow_drew (X : World) (n : Nat) (c : Array Value) : X.drew.setRow n c = (X.setRow n c).drew := rfl
theorem two_rowsD {W : World} {z z' cs ds : Array Value} {t : TypeId} {n : Nat} (hn : W.heap.size = n) : ((((W.alloc (.cells z t)).alloc (.cells z' t)).drew).setRow n cs).setRow (n + 1) ds = ((W.alloc (.cells cs t)).alloc (.cells ds t)).drew := by
 rw [setRow_drew, setRow_drew, two_rows hn]
theorem two_rowsD' {W : World} {z z' cs ds : Array Value} {t : TypeId} {n : Nat} (hn : W.heap.size = n) : ((((W.alloc (.cells z t)).alloc (.cells z' t)).drew).setRow (n + 1) cs).setRow n ds = ((W.alloc (.cells ds t)).alloc (.cells cs t)).drew := by
 rw [setRow_drew, setRow_drew, two_rows' hn]
theorem alloc_at1 {W : World} {z z' : Array Value} {t : TypeId} {n : Nat} (hn : W.heap.size = n) : ((W.alloc (.cells z t)).alloc (.cells z' t)).heap[n]? = some (.cells z t) := by
 subst hn; show ((W.heap.push _).push _)[W.heap.size]? = _; rw [Array.getElem?_push, if_neg (by simp), Array.getElem?_push_size]
theorem alloc_at2 {W : World} {z z' : Array Value} {t : TypeId} {n : Nat} (hn : W.heap.size = n) : ((W.alloc (.cells z t)).alloc (.cells z' t)).heap[n + 1]? = some (.cells z' t) := by
 subst hn; show ((W.heap.push _).push _)[W.heap.size + 1]? = _; rw [Array.getElem?_push, if_pos (by simp)]
theorem setRow_at {W : World} {cs : Array Value} {n m : Nat} {o : Option Obj} (h : W.heap[m]? = o) (hne : m ≠ n) : (W.setRow n cs).heap[m]? = o := by rw [setRow_other W n m cs hne]; exact h
theorem afterRows (w : World) (area : Nat) (cs ds : Array Value) :
 let W := ((((w.alloc (.cells #[.int .u32 area] 35)).alloc (.cells #[.slice none 0 0] 27)).alloc (.cells cs 64)).alloc (.cells ds 64)).drew
 W.heap.size = w.heap.size + 4 /\ Below w.heap.size w W /\ W.rangeAt (w.heap.size + 1 + 1) 0 cs.toList /\ W.rangeAt (w.heap.size + 1 + 1 + 1) 0 ds.toList /\ W.heap[w.heap.size + 1]? = some (.cells #[.slice none 0 0] 27) := by
 intro W
 have h1 : ((w.alloc (.cells #[.int .u32 area] 35)).alloc (.cells #[.slice none 0 0] 27)).heap.size = w.heap.size + 1 + 1 := by simp
 have e1 : W.heap[w.heap.size + 1 + 1]? = some (.cells cs 64) := alloc_at1 h1
 have e2 : W.heap[w.heap.size + 1 + 1 + 1]? = some (.cells ds 64) := alloc_at2 h1
 refine ⟨by show ((((w.heap.push _).push _).push _).push _).size = _; simp, ?_, ?_, ?_, ?_⟩
 . exact (((((Below.refl _ _).alloc (Nat.le_refl _) _).alloc (by simp) _).alloc (by simp; try omega) _).alloc (by simp; try omega) _).drew
 . intro j u hu
   simp only [World.cell?, e1]
   simpa using hu
 . intro j u hu
   simp only [World.cell?, e2]
   simpa using hu
 . have := @alloc_at2 w #[.int .u32 area] #[.slice none 0 0] 27 w.heap.size
   show ((((w.heap.push _).push _).push _).push _)[w.heap.size + 1]? = _
   rw [Array.getElem?_push, if_neg (by simp; try omega), Array.getElem?_push, if_neg (by simp), Array.getElem?_push, if_pos (by simp)]
theorem afterRows0 (w : World) (area : Nat) (cs ds : Array Value) : ((((w.alloc (.cells #[.int .u32 area] 35)).alloc (.cells #[.slice none 0 0] 27)).alloc (.cells cs 64)).alloc (.cells ds 64)).drew.heap[w.heap.size]? = some (.cells #[.int .u32 area] 35) := by
 show ((((w.heap.push _).push _).push _).push _)[w.heap.size]? = _
 rw [Array.getElem?_push, if_neg (by simp; try omega), Array.getElem?_push, if_neg (by simp; try omega), Array.getElem?_push, if_neg (by simp), Array.getElem?_push, if_pos rfl]
structure Rows (w Wr W : World) (V b12 b13 area : Nat) (ci cp : List Value) : Prop where
 at0 : W.cell? ⟨w.heap.size, 0, none⟩ = some (.int .u32 area)
 at1 : ∀ (j : Nat) (u : Value), ci[j]? = some u -> W.cell? ⟨b12, j, none⟩ = some u
 at2 : ∀ (j : Nat) (u : Value), cp[j]? = some u -> W.cell? ⟨b13, j, none⟩ = some u
 below : Below w.heap.size w W
theorem Rows.of {w Wr : World} {V b12 b13 area : Nat} {ci cp : List Value} (h0 : Wr.heap[w.heap.size]? = some (.cells #[.int .u32 area] 35)) (h1 : Wr.rangeAt b12 0 ci) (h2 : Wr.rangeAt b13 0 cp) (hb : Below w.heap.size w Wr) (hs : Wr.heap.size = w.heap.size + 4) (hV : V = w.heap.size + 1) (hb12 : b12 < Wr.heap.size /\ b12 ≠ V) (hb13 : b13 < Wr.heap.size /\ b13 ≠ V) (W : World) (hW : KeptX Wr.heap.size V Wr W) : Rows w Wr W V b12 b13 area ci cp := by
 have key : ∀ (b : Nat) (cs : List Value), Wr.rangeAt b 0 cs -> b < Wr.heap.size /\ b ≠ V -> ∀ (j : Nat) (u : Value), cs[j]? = some u -> W.cell? ⟨b, j, none⟩ = some u := by
  intro b cs h hb j u hu
  have := h j u hu
  rw [Nat.zero_add] at this
  simp only [World.cell?] at this ⊢
  rw [hW.block b hb.1 hb.2]
  exact this
 refine ⟨by simp only [World.cell?]; rw [hW.block w.heap.size (by omega) (by omega), h0]; rfl, key b12 ci h1 hb12, key b13 cp h2 hb13, ?_⟩
 exact hb.trans (hW.below (by omega) (by omega))
def rowsX (D0 D1 : List UInt8) (xs : List XNode) (i p area j : Nat) : List (List UInt8) :=
 isoRec [0] (nodeAt (XNode.ns xs) i).extent (nodeAt (XNode.ns xs) i).size (nodeAt (XNode.ns xs) i).f.time true D0 :: isoRec [1] (nodeAt (XNode.ns xs) p).extent (nodeAt (XNode.ns xs) p).size (nodeAt (XNode.ns xs) p).f.time true D1 :: ((kidsOf (XNode.ns xs) i).take j).map (fun k => isoRec (nodeAt (XNode.ns xs) k).id.data.toList (nodeAt (XNode.ns xs) k).extent (nodeAt (XNode.ns xs) k).size (nodeAt (XNode.ns xs) k).f.time (nodeAt (XNode.ns xs) k).f.dir (kidSu area (nodeAt (XNode.ns xs) k)))
theorem rec_le (nm : ByteArray) (e z : Nat) (t : Int) (d : Bool) (su : List UInt8) (q : Nat) (hq : (isoRec nm.data.toList e z t d su).length = q) (h1 : nm.size <= 1000) (h2 : su.length <= 1000) : q <= 2048 := by
 have hl : nm.data.toList.length = nm.size := by rw [Array.length_toList]; rfl
 rw [isoRec_length, hl] at hq
 unfold recLen evn at hq
 split at hq <;> split at hq <;> omega
theorem own_newN (w : World) (l : List UInt8) (h : l.length <= maxLen) (N : Nat) (hN : w.heap.size = N) : Own (w.alloc (.cells (BVs l).toArray 5)) N (.slice (some ⟨N, 0, none⟩) l.length l.length) l := by
 subst hN; exact Own.new (w := w) l h
theorem erB_len : erB.length = 157 := by unfold erB; rw [suspB_len]; rfl
theorem kids_ns (xs : List XNode) (i : Nat) (hi : i < xs.length) : kidsOf (XNode.ns xs) i = xs[i].kids := by
 show (nodeAt (XNode.ns xs) i).kids = _; rw [nodeAt_ns xs i hi]
theorem rowsX_succ (D0 D1 : List UInt8) (xs : List XNode) (i p area j k : Nat) (hi : i < xs.length) (hj : j < xs[i].kids.length) (hk : xs[i].kids.getD j 0 = k) : rowsX D0 D1 xs i p area (j + 1) = rowsX D0 D1 xs i p area j ++ [isoRec (nodeAt (XNode.ns xs) k).id.data.toList (nodeAt (XNode.ns xs) k).extent (nodeAt (XNode.ns xs) k).size (nodeAt (XNode.ns xs) k).f.time (nodeAt (XNode.ns xs) k).f.dir (kidSu area (nodeAt (XNode.ns xs) k))] := by
 unfold rowsX
 rw [kids_ns xs i hi, take_snoc hj, hk, List.map_append]
 rfl
theorem rowsX_rock (xs : List XNode) (i p area : Nat) (hi : i < xs.length) (hp : xs[i].parent = p) (hpl : p < xs.length) : rowsX (dotSu area (XNode.ns xs) i) xs[p].su xs i p area xs[i].kids.length = recsR true area (XNode.ns xs) i := by
 have e2 : parOf (XNode.ns xs) i = p := by
  show (nodeAt (XNode.ns xs) i).parent = _; rw [nodeAt_ns xs i hi]; exact hp
 have e3 : xs[p].su = (nodeAt (XNode.ns xs) p).su := by rw [nodeAt_ns xs p hpl]
 show _ = dirRecsX area (XNode.ns xs) i
 unfold rowsX dirRecsX
 rw [kids_ns xs i hi, e2, List.take_length, e3]
theorem rowsX_plain (xs : List XNode) (i p area : Nat) (hi : i < xs.length) (hp : xs[i].parent = p) (hm : ∀ (j : Nat) (h : j < xs.length), xs[j].more = []) (hk : ∀ k ∈ xs[i].kids, k < xs.length) : rowsX [] [] xs i p area xs[i].kids.length = recsR false area (XNode.ns xs) i := by
 have e2 : parOf (XNode.ns xs) i = p := by
  show (nodeAt (XNode.ns xs) i).parent = _; rw [nodeAt_ns xs i hi]; exact hp
 show _ = dirRecs (XNode.ns xs) i
 unfold rowsX dirRecs
 rw [kids_ns xs i hi, e2, List.take_length]
 congr 2
 apply List.map_congr_left
 intro k hkm
 have hkl := hk k hkm
 unfold kidRec kidSu
 rw [if_pos (by rw [nodeAt_ns xs k hkl]; exact hm k hkl)]
theorem isoRecordsR_any (rock : Bool) (B g c i p area : Nat) (xs : List XNode) (w : World) (hN : NodesW w B (.slice (some ⟨g, 0, none⟩) xs.length c) xs) (hl : xs.length <= 100001) (hi : i < xs.length) (hpe : xs[i].parent = p) (hp : p < xs.length)
 (hk : ∀ k ∈ xs[i].kids, k < xs.length) (hkl : xs[i].kids.length <= 100001) (hsu : ∀ (j : Nat) (h : j < xs.length), xs[j].su.length <= 400) (hmore : ∀ (j : Nat) (h : j < xs.length), xs[j].more.length <= 1000 /\ xs[j].place <= 200000) (hnr : rock = false -> ∀ (j : Nat) (h : j < xs.length), xs[j].more = []) (har : area <= 200000) (hid : ∀ (j : Nat) (h : j < xs.length), xs[j].id.size <= 1000)
 (hex : ∀ (j : Nat) (h : j < xs.length), xs[j].extent < 4294967296) (hsz : ∀ (j : Nat) (h : j < xs.length), xs[j].size < 4294967296) (ht : ∀ (j : Nat) (h : j < xs.length), -9223372036854775808 <= xs[j].f.time /\ xs[j].f.time <= 9223372036854775807) :
 Calls Tryz.prog 33 #[.slice (some ⟨g, 0, none⟩) xs.length c, .int .i64 i, .bool rock, .int .u32 area] w fun e w' => ∃ A' c', e = .returned (.slice A' (dirBytesR rock area (XNode.ns xs) i).length c') /\ Own w' w.heap.size (.slice A' (dirBytesR rock area (XNode.ns xs) i).length c') (dirBytesR rock area (XNode.ns xs) i) /\ Below w.heap.size w w' := by
 have hg := (hN.len_le rfl).2.2
 have r1 := hN.range i hi
 have r2 := hN.range p hp
 have c1 := hN.cells i hi 9 _ rfl
 rw [hpe] at c1
 have HN := Lib.hid hN
 have hks : ∀ (j : Nat) (h : j < xs.length), (kidSu area xs[j].toNode).length <= 1000 := fun j h => by
  rw [kidSu_len]; unfold kidSuLen; have := hsu j h; show xs[j].su.length + _ <= 1000; split <;> omega
 clear hN
 go_enter Tryz.func33, Tryz.ntmps33
 go_upto_region 4 with (fail)
 have NC : ∀ W : World, Below w.heap.size w W -> W.rangeAt g (i * 18) xs[i].cells /\ W.rangeAt g (p * 18) xs[p].cells /\ W.cell? ⟨g, i * 18 + 9, none⟩ = some (.int .i64 p) := by
  intro W hW
  exact ⟨rangeAt_keep r1 hW hg, rangeAt_keep r2 hW hg, by rw [hW.cell (p := ⟨g, i * 18 + 9, none⟩) hg]; exact c1⟩
 have NC' := Lib.hid NC
 clear NC r1 r2 c1
 go_cut [12, 13] from 21 to 32 (fun v12 v13 wx => ∃ b12 b13, v12 = .pointer (some ⟨b12, 0, none⟩) /\ v13 = .pointer (some ⟨b13, 0, none⟩) /\ wx.heap.size = w.heap.size + 4 /\ Below w.heap.size w wx /\ wx.heap[w.heap.size + 1]? = some (.cells #[.slice none 0 0] 27) /\ b12 < wx.heap.size /\ b13 < wx.heap.size /\ ∀ W, KeptX wx.heap.size (w.heap.size + 1) wx W -> Rows w wx W (w.heap.size + 1) b12 b13 area xs[i].cells xs[p].cells)
 case first =>
  have u64 := under64
  refine wp_region_held_drew (S := fun W => Below w.heap.size w W) (by kernel_rfl) (((Below.refl _ _).alloc (Nat.le_refl _) _).alloc (by simp) _).drew (fun hHeld => ?_)
  refine wpAnyH_take (i := 0) (v := .slice (some ⟨g, 0, none⟩) xs.length c) (rfl : _ = some (Oper.mk _ _ _ _ _ _)) (by kernel_rfl) (by kernel_rfl) (by kernel_rfl) (fun _ _ _ h => h) (Or.inl ⟨by rfl, fun W hW => ?_⟩) (by assumption) ?_
  . first | (go_simp; done) | (have hc := (NC'.out W hW).2.2; go_simp; done) | (have hc := (NC'.out W hW).2.2; simp [execOp, hc]; done)
  try simp only [Act.put, List.setIfInBounds_toArray, List.set_cons_zero, List.set_cons_succ]
  refine wpAnyH_take (i := 1) (v := .int .i64 i) (rfl : _ = some (Oper.mk _ _ _ _ _ _)) (by kernel_rfl) (by kernel_rfl) (by kernel_rfl) (fun _ _ _ h => h) (Or.inl ⟨by rfl, fun W hW => ?_⟩) (by assumption) ?_
  . first | (go_simp; done) | (have hc := (NC'.out W hW).2.2; go_simp; done) | (have hc := (NC'.out W hW).2.2; simp [execOp, hc]; done)
  try simp only [Act.put, List.setIfInBounds_toArray, List.set_cons_zero, List.set_cons_succ]
  refine wpAnyH_take (i := 2) (v := .pointer (some ⟨g, i * 18, none⟩)) (rfl : _ = some (Oper.mk _ _ _ _ _ _)) (by kernel_rfl) (by kernel_rfl) (by kernel_rfl) (fun _ _ _ h => h) (Or.inl ⟨by rfl, fun W hW => ?_⟩) (by assumption) ?_
  . first | (go_simp; done) | (have hc := (NC'.out W hW).2.2; go_simp; done) | (have hc := (NC'.out W hW).2.2; simp [execOp, hc]; done)
  try simp only [Act.put, List.setIfInBounds_toArray, List.set_cons_zero, List.set_cons_succ]
  refine wpAnyH_take (i := 3) (rfl : _ = some (Oper.mk _ _ _ _ _ _)) (by kernel_rfl) (by kernel_rfl) (by kernel_rfl) (fun _ _ _ h => h) (yieldsIf_load_mid (by rfl) 64 _ rfl g (i * 18) rfl xs[i].cells _ (fun W hW => by first | exact (NC'.out W hW).1 | exact (NC'.out W hW).2.1) u64.choose_spec.1 u64.choose_spec.2 info64) (by assumption) ?_
  try simp only [Act.put, List.setIfInBounds_toArray, List.set_cons_zero, List.set_cons_succ]
  refine wpAnyH_take (i := 4) (v := .slice (some ⟨g, 0, none⟩) xs.length c) (rfl : _ = some (Oper.mk _ _ _ _ _ _)) (by kernel_rfl) (by kernel_rfl) (by kernel_rfl) (fun _ _ _ h => h) (Or.inl ⟨by rfl, fun W hW => ?_⟩) (by assumption) ?_
  . first | (go_simp; done) | (have hc := (NC'.out W hW).2.2; go_simp; done) | (have hc := (NC'.out W hW).2.2; simp [execOp, hc]; done)
  try simp only [Act.put, List.setIfInBounds_toArray, List.set_cons_zero, List.set_cons_succ]
  refine wpAnyH_take (i := 5) (v := .slice (some ⟨g, 0, none⟩) xs.length c) (rfl : _ = some (Oper.mk _ _ _ _ _ _)) (by kernel_rfl) (by kernel_rfl) (by kernel_rfl) (fun _ _ _ h => h) (Or.inl ⟨by rfl, fun W hW => ?_⟩) (by assumption) ?_
  . first | (go_simp; done) | (have hc := (NC'.out W hW).2.2; go_simp; done) | (have hc := (NC'.out W hW).2.2; simp [execOp, hc]; done)
  try simp only [Act.put, List.setIfInBounds_toArray, List.set_cons_zero, List.set_cons_succ]
  refine wpAnyH_take (i := 6) (v := .int .i64 i) (rfl : _ = some (Oper.mk _ _ _ _ _ _)) (by kernel_rfl) (by kernel_rfl) (by kernel_rfl) (fun _ _ _ h => h) (Or.inl ⟨by rfl, fun W hW => ?_⟩) (by assumption) ?_
  . first | (go_simp; done) | (have hc := (NC'.out W hW).2.2; go_simp; done) | (have hc := (NC'.out W hW).2.2; simp [execOp, hc]; done)
  try simp only [Act.put, List.setIfInBounds_toArray, List.set_cons_zero, List.set_cons_succ]
  refine wpAnyH_take (i := 7) (v := .pointer (some ⟨g, i * 18, none⟩)) (rfl : _ = some (Oper.mk _ _ _ _ _ _)) (by kernel_rfl) (by kernel_rfl) (by kernel_rfl) (fun _ _ _ h => h) (Or.inl ⟨by rfl, fun W hW => ?_⟩) (by assumption) ?_
  . first | (go_simp; done) | (have hc := (NC'.out W hW).2.2; go_simp; done) | (have hc := (NC'.out W hW).2.2; simp [execOp, hc]; done)
  try simp only [Act.put, List.setIfInBounds_toArray, List.set_cons_zero, List.set_cons_succ]
  refine wpAnyH_take (i := 8) (v := .pointer (some ⟨g, i * 18 + 9, none⟩)) (rfl : _ = some (Oper.mk _ _ _ _ _ _)) (by kernel_rfl) (by kernel_rfl) (by kernel_rfl) (fun _ _ _ h => h) (Or.inl ⟨by rfl, fun W hW => ?_⟩) (by assumption) ?_
  . first | (go_simp; done) | (have hc := (NC'.out W hW).2.2; go_simp; done) | (have hc := (NC'.out W hW).2.2; simp [execOp, hc]; done)
  try simp only [Act.put, List.setIfInBounds_toArray, List.set_cons_zero, List.set_cons_succ]
  refine wpAnyH_take (i := 9) (v := .int .i64 p) (rfl : _ = some (Oper.mk _ _ _ _ _ _)) (by kernel_rfl) (by kernel_rfl) (by kernel_rfl) (fun _ _ _ h => h) (Or.inl ⟨by rfl, fun W hW => ?_⟩) (by assumption) ?_
  . first | (go_simp; done) | (have hc := (NC'.out W hW).2.2; go_simp; done) | (have hc := (NC'.out W hW).2.2; simp [execOp, hc]; done)
  try simp only [Act.put, List.setIfInBounds_toArray, List.set_cons_zero, List.set_cons_succ]
  refine wpAnyH_take (i := 10) (v := .pointer (some ⟨g, p * 18, none⟩)) (rfl : _ = some (Oper.mk _ _ _ _ _ _)) (by kernel_rfl) (by kernel_rfl) (by kernel_rfl) (fun _ _ _ h => h) (Or.inl ⟨by rfl, fun W hW => ?_⟩) (by assumption) ?_
  . first | (go_simp; done) | (have hc := (NC'.out W hW).2.2; go_simp; done) | (have hc := (NC'.out W hW).2.2; simp [execOp, hc]; done)
  try simp only [Act.put, List.setIfInBounds_toArray, List.set_cons_zero, List.set_cons_succ]
  refine wpAnyH_take (i := 11) (rfl : _ = some (Oper.mk _ _ _ _ _ _)) (by kernel_rfl) (by kernel_rfl) (by kernel_rfl) (fun _ _ _ h => h) (yieldsIf_load_mid (by rfl) 64 _ rfl g (p * 18) rfl xs[p].cells _ (fun W hW => by first | exact (NC'.out W hW).1 | exact (NC'.out W hW).2.1) u64.choose_spec.1 u64.choose_spec.2 info64) (by assumption) ?_
  try simp only [Act.put, List.setIfInBounds_toArray, List.set_cons_zero, List.set_cons_succ]
  refine wpAnyH_ready (rs := [12, 13]) (by kernel_rfl) (by simp) ?_
  refine AllReadyH.cons (rfl : _ = some (Oper.mk _ _ _ _ _ _)) (fun K hK => ?_) (AllReadyH.cons (rfl : _ = some (Oper.mk _ _ _ _ _ _)) (fun K hK => ?_) AllReadyH.nil)
  focus
   skip
   rw [if_pos (by rfl)]
   go_simp
   refine hK.out _ _ (by repeat (first | refine below_setRow ?_ (by simp; try omega) _ | refine Below.drew ?_ | refine Below.alloc ?_ (by simp; try omega) _ | exact Below.refl _ _)) (fun hHeld' => ?_)
   clear hK K hHeld
   have hHeld := hHeld'
   clear hHeld'
   try simp only [Act.put, List.setIfInBounds_toArray, List.set_cons_zero, List.set_cons_succ]
   refine wpAnyH_ready (rs := [13]) (by kernel_rfl) (by simp) ?_
   refine AllReadyH.cons (rfl : _ = some (Oper.mk _ _ _ _ _ _)) (fun K hK => ?_) AllReadyH.nil
   rw [if_pos (by rfl)]
   go_simp
   refine hK.out _ _ (by repeat (first | refine below_setRow ?_ (by simp; try omega) _ | refine Below.drew ?_ | refine Below.alloc ?_ (by simp; try omega) _ | exact Below.refl _ _)) (fun hHeld' => ?_)
   clear hK K hHeld
   have hHeld := hHeld'
   clear hHeld'
   try simp only [Act.put, List.setIfInBounds_toArray, List.set_cons_zero, List.set_cons_succ]
   refine wpAnyH_ready (rs := [14]) (by kernel_rfl) (by simp) ?_
   refine AllReadyH.cons (rfl : _ = some (Oper.mk _ _ _ _ _ _)) (fun K hK => ?_) AllReadyH.nil
   rw [if_pos (by rfl)]
   refine wp_store_row 64 _ _ rfl _ xs[i].cells.toArray rfl rfl 64 _ (alloc_at1 (by simp)) (by exact info64) (by rfl) (by rw [<- Array.all_toList]; rfl) ?_
   refine hK.out _ _ (by exact below_setRow hHeld (by omega) _) (fun hHeld' => ?_)
   clear hK K hHeld
   have hHeld := hHeld'
   clear hHeld'
   try simp only [Act.put, List.setIfInBounds_toArray, List.set_cons_zero, List.set_cons_succ]
   refine wpAnyH_ready (rs := [15]) (by kernel_rfl) (by simp) ?_
   refine AllReadyH.cons (rfl : _ = some (Oper.mk _ _ _ _ _ _)) (fun K hK => ?_) AllReadyH.nil
   rw [if_pos (by rfl)]
   refine wp_store_row 64 _ _ rfl _ xs[p].cells.toArray rfl rfl 64 _ (setRow_at (alloc_at2 (by simp)) (by simp)) (by exact info64) (by rfl) (by rw [<- Array.all_toList]; rfl) ?_
   refine hK.out _ _ (by exact below_setRow hHeld (by omega) _) (fun hHeld' => ?_)
   clear hK K hHeld
   have hHeld := hHeld'
   clear hHeld'
   try simp only [Act.put, List.setIfInBounds_toArray, List.set_cons_zero, List.set_cons_succ]
   refine wpAnyH_done (by kernel_rfl) ?_ _
   rw [two_rowsD (n := w.heap.size + 1 + 1) (by simp)]
   have HA := afterRows w area xs[i].cells.toArray xs[p].cells.toArray
   have HA0 := afterRows0 w area xs[i].cells.toArray xs[p].cells.toArray
   revert HA HA0
   generalize hWr : ((((w.alloc (.cells #[.int .u32 area] 35)).alloc (.cells #[.slice none 0 0] 27)).alloc (.cells xs[i].cells.toArray 64)).alloc (.cells xs[p].cells.toArray 64)).drew = Wr
   rintro ⟨hWs, hWb, hr12, hr13, hWV⟩ hW0
   clear hWr hHeld
   have RW := Rows.of hW0 hr12 hr13 hWb hWs rfl (by omega) (by omega)
   go_wp2_with (fail)
   go_meet
   exact ⟨_, _, rfl, rfl, hWs, hWb, hWV, by omega, by omega, RW⟩
  rotate_left
  focus
   skip
   rw [if_pos (by rfl)]
   go_simp
   refine hK.out _ _ (by repeat (first | refine below_setRow ?_ (by simp; try omega) _ | refine Below.drew ?_ | refine Below.alloc ?_ (by simp; try omega) _ | exact Below.refl _ _)) (fun hHeld' => ?_)
   clear hK K hHeld
   have hHeld := hHeld'
   clear hHeld'
   try simp only [Act.put, List.setIfInBounds_toArray, List.set_cons_zero, List.set_cons_succ]
   refine wpAnyH_ready (rs := [12]) (by kernel_rfl) (by simp) ?_
   refine AllReadyH.cons (rfl : _ = some (Oper.mk _ _ _ _ _ _)) (fun K hK => ?_) AllReadyH.nil
   rw [if_pos (by rfl)]
   go_simp
   refine hK.out _ _ (by repeat (first | refine below_setRow ?_ (by simp; try omega) _ | refine Below.drew ?_ | refine Below.alloc ?_ (by simp; try omega) _ | exact Below.refl _ _)) (fun hHeld' => ?_)
   clear hK K hHeld
   have hHeld := hHeld'
   clear hHeld'
   try simp only [Act.put, List.setIfInBounds_toArray, List.set_cons_zero, List.set_cons_succ]
   refine wpAnyH_ready (rs := [14]) (by kernel_rfl) (by simp) ?_
   refine AllReadyH.cons (rfl : _ = some (Oper.mk _ _ _ _ _ _)) (fun K hK => ?_) AllReadyH.nil
   rw [if_pos (by rfl)]
   refine wp_store_row 64 _ _ rfl _ xs[i].cells.toArray rfl rfl 64 _ (alloc_at2 (by simp)) (by exact info64) (by rfl) (by rw [<- Array.all_toList]; rfl) ?_
   refine hK.out _ _ (by exact below_setRow hHeld (by omega) _) (fun hHeld' => ?_)
   clear hK K hHeld
   have hHeld := hHeld'
   clear hHeld'
   try simp only [Act.put, List.setIfInBounds_toArray, List.set_cons_zero, List.set_cons_succ]
   refine wpAnyH_ready (rs := [15]) (by kernel_rfl) (by simp) ?_
   refine AllReadyH.cons (rfl : _ = some (Oper.mk _ _ _ _ _ _)) (fun K hK => ?_) AllReadyH.nil
   rw [if_pos (by rfl)]
   refine wp_store_row 64 _ _ rfl _ xs[p].cells.toArray rfl rfl 64 _ (setRow_at (alloc_at1 (by simp)) (by simp)) (by exact info64) (by rfl) (by rw [<- Array.all_toList]; rfl) ?_
   refine hK.out _ _ (by exact below_setRow hHeld (by omega) _) (fun hHeld' => ?_)
   clear hK K hHeld
   have hHeld := hHeld'
   clear hHeld'
   try simp only [Act.put, List.setIfInBounds_toArray, List.set_cons_zero, List.set_cons_succ]
   refine wpAnyH_done (by kernel_rfl) ?_ _
   rw [two_rowsD' (n := w.heap.size + 1 + 1) (by simp)]
   have HA := afterRows w area xs[p].cells.toArray xs[i].cells.toArray
   have HA0 := afterRows0 w area xs[p].cells.toArray xs[i].cells.toArray
   revert HA HA0
   generalize hWr : ((((w.alloc (.cells #[.int .u32 area] 35)).alloc (.cells #[.slice none 0 0] 27)).alloc (.cells xs[p].cells.toArray 64)).alloc (.cells xs[i].cells.toArray 64)).drew = Wr
   rintro ⟨hWs, hWb, hr13, hr12, hWV⟩ hW0
   clear hWr hHeld
   have RW := Rows.of hW0 hr12 hr13 hWb hWs rfl (by omega) (by omega)
   go_wp2_with (fail)
   go_meet
   exact ⟨_, _, rfl, rfl, hWs, hWb, hWV, by omega, by omega, RW⟩
 case rest =>
  obtain ⟨Wr, hWr⟩ : ∃ W, W = wc := ⟨_, rfl⟩
  subst hWr
  obtain ⟨b12, b13, rfl, rfl, hWs, hWb, hWV, hb12l, hb13l, RW⟩ := hcut
  obtain ⟨V, hVe⟩ : ∃ V, w.heap.size + 1 = V := ⟨_, rfl⟩
  rw [hVe] at hWV ⊢
  simp only [hVe] at RW
  have RW' := Lib.hid RW
  have hVR : V < Wr.heap.size := by omega
  have hVw : w.heap.size <= V := by omega
  have O0 : ∀ W : World, Below Wr.heap.size Wr W -> OR W Wr.heap.size V none 0 [] 0 := fun W hW => ⟨by rw [hW.block V hVR]; exact hWV, Own.nil _ _, rfl, hVR, hW.size⟩
  have O0' := Lib.hid O0
  obtain ⟨htl, htu⟩ := ht i hi
  have hxe := hex i hi
  have hxz := hsz i hi
  obtain ⟨ptl, ptu⟩ := ht p hp
  have pxe := hex p hp
  have pxz := hsz p hp
  have HNS := Lib.hid (fun (W : World) (h : KeptX Wr.heap.size V Wr W) (j : Nat) (hj : j < xs.length) => ((HN.out.su _ (List.getElem_mem hj)).later (RW'.out W h).below).rd)
  have hBd : Below Wr.heap.size Wr ((Wr.alloc (.cells #[] 5)).alloc (.cells #[] 5)) := ((Below.refl _ _).alloc (Nat.le_refl _) _).alloc (by simp) _
  have hlit : ((Wr.alloc (.cells #[] 5)).alloc (.cells #[] 5)).heap[Wr.heap.size]? = some (.cells #[] 5) := alloc_at1 rfl
  have HBD := Lib.hid hBd; have HLIT := Lib.hid hlit
  have hWbS := hWb.size
  have HWB := Lib.hid hWb
  clear RW hVe O0 hWV hBd hlit hWs hWb
  obtain ⟨D0, hD0⟩ : ∃ D0 : List UInt8, D0 = if rock then dotSu area (XNode.ns xs) i else [] := ⟨_, rfl⟩
  obtain ⟨D1, hD1⟩ : ∃ D1 : List UInt8, D1 = if rock then xs[p].su else [] := ⟨_, rfl⟩
  have HALL : Hid (rowsX D0 D1 xs i p area xs[i].kids.length = recsR rock area (XNode.ns xs) i) := by
   unfold Hid
   cases rock with
   | true => rw [hD0, hD1]; exact rowsX_rock xs i p area hi hpe hp
   | false => rw [hD0, hD1]; exact rowsX_plain xs i p area hi hpe (hnr rfl) hk
  have h0l : D0.length <= 600 /\ D1.length <= 600 := by
   cases rock with
   | true =>
     rw [hD0, hD1, if_pos rfl, if_pos rfl, dotSu_len]
     unfold dotSuLen
     rw [nodeAt_ns xs i hi]
     have h1 := hsu i hi
     have h2 := hsu p hp
     refine ⟨?_, by omega⟩
     show xs[i].su.length + _ <= 600
     split <;> omega
   | false => rw [hD0, hD1]; exact ⟨by simp, by simp⟩
  have HD0 := Lib.hid hD0; have HD1 := Lib.hid hD1
  clear hD0 hD1
  go_upto_if 35 with (fail)
  go_cut [14, 15] from 36 to 65 (fun v14 v15 wx => Below Wr.heap.size Wr wx /\ Rd wx wx.heap.size v14 D0 /\ ∀ W', KeptX Wr.heap.size V Wr W' -> wx.heap.size <= W'.heap.size -> Rd W' W'.heap.size v15 D1)
  case first =>
   cases rock with
   | false =>
     go_wp2_with (fail)
     go_meet
     have e0 : D0 = [] := HD0.out
     have e1 : D1 = [] := HD1.out
     rw [e0, e1]
     exact ⟨HBD.out, ⟨_, _, rfl, (by intro ad e; cases e; simp; omega), (by intro j u hu; simp [BVs] at hu)⟩, fun W' hK hs => ⟨_, _, rfl, (by intro ad e; cases e; simp at hs; show Wr.heap.size + 1 < _; omega), (by intro j u hu; simp [BVs] at hu)⟩⟩
   | true =>
     have e1 : D1 = xs[p].su := HD1.out
     by_cases hi0 : i = 0
     . subst hi0
       have e0 : D0 = suspB 83 80 [190, 239, 0] ++ xs[0].su ++ ceB (area + xs[0].place / 2048) (xs[0].place % 2048) 157 := by
        have := HD0.out
        rw [if_pos rfl] at this
        unfold dotSu at this
        rw [if_pos rfl, nodeAt_ns xs 0 hi] at this
        exact this
       obtain ⟨pl, hpl⟩ : ∃ pl, xs[0].place = pl := ⟨_, rfl⟩
       have hpl2 : pl <= 200000 := by rw [<- hpl]; exact (hmore 0 hi).2
       have hc15 : ∀ W, KeptX Wr.heap.size V Wr W -> W.cell? ⟨g, 15, none⟩ = some (.int .u32 pl) := fun W hW => by
        have h := HN.out.cells 0 hi 15 _ rfl
        rw [Nat.zero_mul, Nat.zero_add] at h
        rw [<- hpl]
        exact ((RW'.out W hW).below.cell (p := ⟨g, 15, none⟩) hg).trans h
       have HC15 := Lib.hid hc15
       rw [hpl] at e0
       have E0 := Lib.hid e0; have E1 := Lib.hid e1
       clear hc15 hpl e0 e1
       go_upto_region 11 with (first
        | (at_builtin; refine asList rfl fun K hK => ?_; go_must (refine go_appB (w0 := Wr) (.tmp 40) (.tmp 42) rfl Wr.heap.size _ v2 _ (suspB 83 80 [190, 239, 0]) xs[0].su rfl ho2 rfl (HNS.out _ (KeptX.of hb2) 0 hi) (by have := hsu 0 hi; rw [suspB_len]; simp; omega) hb2 (Nat.le_refl _) ?_); rintro A3 c3 w3 L3 hL3 hl3 hl3' ho3 hb3 hg3; refine hK _ _ ?_; clear hK K)
        | (go_at_call 51; go_must (refine (suspW_any 83 80 _ 3 [190, 239, 0] _ (by decide) (own_newN ((Wr.alloc (.cells #[] 5)).alloc (.cells #[] 5)) [190, 239, 0] (by decide) (Wr.heap.size + 1 + 1) (by simp)).rd).mono ?_); rintro e w2 ⟨⟨v2, rfl, ho2⟩, hx2⟩; have hb2 : Below Wr.heap.size Wr w2 := (HBD.out.alloc HBD.out.size _).trans (hx2.mono (by simp; try omega)); have ho2 : Own w2 Wr.heap.size v2 (suspB 83 80 [190, 239, 0]) := ho2.lower (by simp; try omega); have F2 := RW'.out _ (KeptX.of hb2); have f13 := F2.at1 13 _ rfl))
       have HO3 := Lib.hid ho3; have HL3 := Lib.hid hL3
       have F3 := RW'.out _ (KeptX.of hb3)
       have k0 := F3.at0
       have k15 := HC15.out _ (KeptX.of hb3)
       have hl3b : L3.length <= 500 := by have := hsu 0 hi; rw [suspB_len] at hl3; simp at hl3; omega
       clear F2 f13 ho2 hx2 hb2 ho3 hL3 hl3 hl3' hg3 F3
       have hst3 : ∀ W, Below w3.heap.size w3 W -> KeptX Wr.heap.size V Wr W := fun W h => KeptX.of (hb3.trans (h.mono hb3.size))
       have hS : ∀ W, Below w3.heap.size w3 W -> W.cell? ⟨w.heap.size, 0, none⟩ = some (.int .u32 area) /\ W.cell? ⟨g, 15, none⟩ = some (.int .u32 pl) := fun W h => ⟨(RW'.out _ (hst3 W h)).at0, HC15.out _ (hst3 W h)⟩
       have hS2 : ∀ W, Below Wr.heap.size w3 W -> W.cell? ⟨w.heap.size, 0, none⟩ = some (.int .u32 area) /\ W.cell? ⟨g, 15, none⟩ = some (.int .u32 pl) := fun W h => ⟨(RW'.out _ (KeptX.of (hb3.trans h))).at0, HC15.out _ (KeptX.of (hb3.trans h))⟩
       have HS := Lib.hid hS; have HS2 := Lib.hid hS2
       have z1 : IntKind.u32.wrap ((pl : Int) / 2048) = (pl : Int) / 2048 := wrap_u32' (pl / 2048) (by omega)
       have z2 : IntKind.u32.wrap ((area : Int) + (pl : Int) / 2048) = (area : Int) + (pl : Int) / 2048 := wrap_u32' (area + pl / 2048) (by omega)
       have z3 : (pl : Int).tmod 2048 = (pl : Int) % 2048 := by rw [Int.tmod_eq_emod_of_nonneg (by omega)]
       have E2 := Lib.hid (show (area : Int) + (pl : Int) / 2048 = ((area + pl / 2048 : Nat) : Int) from by omega)
       have E3 := Lib.hid (show (pl : Int) % 2048 = ((pl % 2048 : Nat) : Int) from by omega)
       have hstay : Below w3.heap.size w3 w3.drew := (Below.refl _ _).drew
       have hx0 : (0 : Int) < (xs.length : Int) := by omega
       clear hS hst3 hS2
       go_region_held3 (fun W => W.cell? ⟨w.heap.size, 0, none⟩ = some (.int .u32 area) /\ W.cell? ⟨g, 15, none⟩ = some (.int .u32 pl)) (first | exact ⟨k0, k15⟩ | exact HS2.out _ hst8 | exact HS.out _ hst6 | exact HS.out _ hst5 | exact HS.out _ hstay) (first
        | (refine asStep rfl ?_; refine go_appB (w0 := w3) (.tmp 46) (.tmp 62) rfl Wr.heap.size _ _ _ L3 (ceB (area + pl / 2048) (pl % 2048) 157) rfl ho3' rfl ho6.rd (by rw [ce_len]; omega) hst6' hb3.size ?_; rintro A8 c8 w8 L8 hL8 hl8 hl8' ho8 hst8 hg8)
        | (go_at_call 55; rw [E2.out, E3.out]; go_must (refine (rockCE_any (area + pl / 2048) (pl % 2048) 157 _ (by omega) (by omega) (by decide)).mono ?_); go_must (rintro e w6 ⟨⟨v6, rfl, ho6⟩, hx6⟩); have hst6 := hst5.trans (hx6.mono hst5.size); have ho3' := HO3.out.later hst6; have hst6' : Below Wr.heap.size w3 w6 := hst6.mono hb3.size)
        | (go_at_call 29; go_must (refine (rockER_any _).mono ?_); go_must (rintro e w5 ⟨⟨v5, rfl, ho5⟩, hx5⟩); obtain ⟨A5, c5, rfl, _, _⟩ := ho5.shape; rw [erB_len] at ho5 ⊢; have hst5 := hstay.trans hx5))
       have hb38 : Below Wr.heap.size Wr w8 := hb3.trans hst8
       have F8 := RW'.out _ (KeptX.of hb38)
       have g13 := F8.at2 13 _ rfl
       clear F8 z1 z2 z3 k0 k15 hst5 hst6 hst6' ho3' ho6 hx6 hx5 ho5 hg8 hstay
       go_wp2_with (fail)
       go_meet
       have hL8e : L8 = suspB 83 80 [190, 239, 0] ++ xs[0].su ++ ceB (area + pl / 2048) (pl % 2048) 157 := by rw [hL8.out, HL3.out]
       rw [E0.out, E1.out]
       exact ⟨hb38, by have := ho8.rd; rw [hL8e] at this ⊢; exact this, fun W' hK hs => HNS.out W' hK p hp⟩
     . have hti : ((i : Int) == 0) = false := by simp; omega
       have e0 : D0 = xs[i].su := by
        have := HD0.out
        rw [if_pos rfl] at this
        unfold dotSu at this
        rw [if_neg hi0, nodeAt_ns xs i hi] at this
        exact this
       have F0 := RW'.out _ (KeptX.of HBD.out)
       have f13 := F0.at1 13 _ rfl
       have E0 := Lib.hid e0; have E1 := Lib.hid e1
       clear F0 e0 e1 hi0
       go_wp2_with (at_builtin; refine asList rfl fun K hK => ?_; go_must (refine go_appB (w0 := Wr) (.tmp 40) (.tmp 42) rfl Wr.heap.size _ _ _ [] xs[i].su rfl (own_lit0 HLIT.out (Nat.le_refl _)) rfl (HNS.out _ (KeptX.of HBD.out) i hi) (by have := hsu i hi; simp; omega) HBD.out (Nat.le_refl _) ?_); rintro A3 c3 w3 L3 hL3 hl3 hl3' ho3 hb3 hg3; refine hK _ _ ?_; clear hK K; have F3 := RW'.out _ (KeptX.of hb3); have g13 := F3.at2 13 _ rfl)
       go_meet
       have hL3e : L3 = xs[i].su := hL3.out
       rw [E0.out, E1.out]
       exact ⟨hb3, by have := ho3.rd; rw [hL3e] at this ⊢; exact this, fun W' hK hs => HNS.out W' hK p hp⟩
  case rest =>
   obtain ⟨hbd, hr14, hr15⟩ := hcut
   have HR14 := Lib.hid hr14; have HR15 := Lib.hid hr15
   have F1 := RW'.out wc (KeptX.of hbd)
   have f11 := F1.at1 11 _ rfl
   have f12 := F1.at1 12 _ rfl
   have f7 := F1.at1 7 _ rfl
   obtain ⟨q1, hq1⟩ : ∃ q, (isoRec [0] xs[i].extent xs[i].size xs[i].f.time true D0).length = q := ⟨_, rfl⟩
   obtain ⟨q2, hq2⟩ : ∃ q, (isoRec [1] xs[p].extent xs[p].size xs[p].f.time true D1).length = q := ⟨_, rfl⟩
   have hq1b : q1 <= 2048 := rec_le ⟨#[0]⟩ _ _ _ _ _ q1 hq1 (by decide) (by omega)
   have hq2b : q2 <= 2048 := rec_le ⟨#[1]⟩ _ _ _ _ _ q2 hq2 (by decide) (by omega)
   have HQ1 := Lib.hid hq1; have HQ2 := Lib.hid hq2
   have hVd : V < wc.heap.size := Nat.lt_of_lt_of_le hVR hbd.size
   clear F1 hr14 hr15 hq1 hq2
   obtain ⟨Wd, hWd⟩ : ∃ W, W = wc := ⟨_, rfl⟩
   subst hWd
   go_wp2_with (first
    | (go_at_call 53; refine (add_any V Wr.heap.size u2.heap.size n2 q2 c2 cy3 A2 A3 _ (isoRec [1] xs[p].extent xs[p].size xs[p].f.time true D1) u3 (hO2.later hb3) HQ2.out hO3 (fun k hk => (World.ownsRow.lt hO2.own k hk).2) (Nat.lt_of_lt_of_le hVR hO2.le) hq2b (by omega)).mono ?_; rintro e u4 ⟨A4, c4, n4, rfl, hO4, hn4, hk4⟩; have K4 := (K2.trans (KeptX.of (hb3.mono hO2.le))).trans hk4; have F4 := RW'.out _ K4; have f10 := F4.at1 10 _ rfl)
    | (go_at_call 56; refine (isoRecord_any ⟨#[1]⟩ xs[p].extent xs[p].size xs[p].f.time true u15 D1 u2 (by decide) pxe pxz ptl ptu (by omega) (HR15.out u2 K2 hs2)).mono ?_; rintro e u3 ⟨⟨v3, rfl, hO3⟩, hb3⟩; obtain ⟨A3, cy3, rfl, hA3, _⟩ := hO3.shape; rw [show (isoRec (⟨#[1]⟩ : ByteArray).data.toList xs[p].extent xs[p].size xs[p].f.time true D1).length = q2 from HQ2.out] at hO3 ⊢)
    | (go_at_call 53; refine (add_any V Wr.heap.size _ 0 q1 0 cy1 none A1 [] (isoRec [0] xs[i].extent xs[i].size xs[i].f.time true D0) u1 (O0'.out u1 hbu1) HQ1.out hO1 (by intro k hk; cases hk) hVd hq1b (by decide)).mono ?_; rintro e u2 ⟨A2, c2, n2, rfl, hO2, hn2, hk2⟩; have K2 := (KeptX.of hbu1).trans hk2; have F2 := RW'.out _ K2; have g11 := F2.at2 11 _ rfl; have g12 := F2.at2 12 _ rfl; have g7 := F2.at2 7 _ rfl; have hs2 : Wd.heap.size <= u2.heap.size := Nat.le_trans hb1.size hk2.size)
    | (go_at_call 56; refine (isoRecord_any ⟨#[0]⟩ xs[i].extent xs[i].size xs[i].f.time true u14 D0 Wd (by decide) hxe hxz htl htu (by omega) HR14.out).mono ?_; rintro e u1 ⟨⟨v1, rfl, hO1⟩, hb1⟩; obtain ⟨A1, cy1, rfl, hA1, _⟩ := hO1.shape; rw [show (isoRec (⟨#[0]⟩ : ByteArray).data.toList xs[i].extent xs[i].size xs[i].f.time true D0).length = q1 from HQ1.out] at hO1 ⊢; have hbu1 := hbd.trans (hb1.mono hbd.size)))
   have RL : Hid (addRec (addRec [] (isoRec [0] xs[i].extent xs[i].size xs[i].f.time true D0)) (isoRec [1] xs[p].extent xs[p].size xs[p].f.time true D1) = (rowsX D0 D1 xs i p area 0).foldl addRec []) := by unfold Hid rowsX; rw [nodeAt_ns xs i hi, nodeAt_ns xs p hp]; rfl
   clear g11 g12 g7 f11 f12 f7 F2 F4 hO1 hO3 hb1 hb3 hk2 hk4 hbu1 f10 K2
   go_loopw [17, 91] (fun _ jv wr => ∃ (j n' c' : Nat) (A' : Option Addr) (l : List UInt8), j <= xs[i].kids.length /\ jv = .int .i64 j /\ OR wr Wr.heap.size V A' c' l n' /\ KeptX Wr.heap.size V Wr wr /\ n' <= 8192 + j * 4096 /\ Hid (l = (rowsX D0 D1 xs i p area j).foldl addRec [])) (fun _ jv _ => xs[i].kids.length - (intOf jv).toNat)
   case atStart => exact ⟨0, n4, c4, A4, _, by omega, rfl, hO4, K4, by omega, RL.out⟩
   case round =>
    clear hO2 hO4 hn2 hn4 K4 RL
    obtain ⟨j, n', c', A', l, hj, rfl, hO, hK, hn, hl'⟩ := hrel
    by_cases hlt : j < xs[i].kids.length
    . obtain ⟨gk, hka, hkc, hgk⟩ := HN.out.kid i hi j hlt
      obtain ⟨k, hkk⟩ : ∃ k, xs[i].kids.getD j 0 = k := ⟨_, rfl⟩
      have hkl2 : k < xs.length := by rw [<- hkk]; exact hk _ (getD_mem hlt)
      rw [hkk] at hkc
      have ckd : wr.cell? ⟨gk, j, none⟩ = some (.int .i64 k) := by rw [(RW'.out wr hK).below.cell (p := ⟨gk, j, none⟩) hgk]; exact hkc
      have HKK := Lib.hid hkk; have HO := Lib.hid hO; have HKX := Lib.hid hK
      clear hkk hkc hO hK
      rw [hka]
      go_wp2_with (fail)
      have NK : ∀ W : World, KeptX Wr.heap.size V Wr W -> W.rangeAt g (k * 18) xs[k].cells /\ W.cell? ⟨g, k * 18 + 8, none⟩ = some (.string xs[k].id) /\ W.cell? ⟨g, k * 18 + 11, none⟩ = some (.int .u32 xs[k].extent) /\ W.cell? ⟨g, k * 18 + 12, none⟩ = some (.int .u32 xs[k].size) /\ W.cell? ⟨g, k * 18 + 7, none⟩ = some (.int .i64 xs[k].f.time) /\ W.cell? ⟨g, k * 18 + 1, none⟩ = some (.bool xs[k].f.dir) := by
       intro W hW
       have h := rangeAt_keep (HN.out.range k hkl2) (RW'.out W hW).below hg
       exact ⟨h, h 8 _ rfl, h 11 _ rfl, h 12 _ rfl, h 7 _ rfl, h 1 _ rfl⟩
      have NK' := Lib.hid NK
      clear NK
      refine wp_region_held_drew (S := fun W => KeptX Wr.heap.size V Wr W) (by kernel_rfl) (HKX.out.trans (KeptX.of (Below.refl _ _).drew)) (fun hHeld => ?_)
      refine wpAnyH_take (i := 0) (v := .func (.func 53) #[] #[.pointer (some ⟨V, 0, none⟩)]) (rfl : _ = some (Oper.mk _ _ _ _ _ _)) (by kernel_rfl) (by kernel_rfl) (by kernel_rfl) (fun _ _ _ h => h) (Or.inl ⟨by rfl, fun W hW => ?_⟩) (by assumption) ?_
      . first | (go_simp; done) | (obtain ⟨hr, c8, c11, c12, c7, c1⟩ := NK'.out W hW; simp [execOp, *]; done)
      try simp only [Act.put, List.setIfInBounds_toArray, List.set_cons_zero, List.set_cons_succ]
      refine wpAnyH_take (i := 1) (v := .slice (some ⟨g, 0, none⟩) xs.length c) (rfl : _ = some (Oper.mk _ _ _ _ _ _)) (by kernel_rfl) (by kernel_rfl) (by kernel_rfl) (fun _ _ _ h => h) (Or.inl ⟨by rfl, fun W hW => ?_⟩) (by assumption) ?_
      . first | (go_simp; done) | (obtain ⟨hr, c8, c11, c12, c7, c1⟩ := NK'.out W hW; simp [execOp, *]; done)
      try simp only [Act.put, List.setIfInBounds_toArray, List.set_cons_zero, List.set_cons_succ]
      refine wpAnyH_take (i := 2) (v := .int .i64 k) (rfl : _ = some (Oper.mk _ _ _ _ _ _)) (by kernel_rfl) (by kernel_rfl) (by kernel_rfl) (fun _ _ _ h => h) (Or.inl ⟨by rfl, fun W hW => ?_⟩) (by assumption) ?_
      . first | (go_simp; done) | (obtain ⟨hr, c8, c11, c12, c7, c1⟩ := NK'.out W hW; simp [execOp, *]; done)
      try simp only [Act.put, List.setIfInBounds_toArray, List.set_cons_zero, List.set_cons_succ]
      refine wpAnyH_take (i := 3) (v := .pointer (some ⟨g, k * 18, none⟩)) (rfl : _ = some (Oper.mk _ _ _ _ _ _)) (by kernel_rfl) (by kernel_rfl) (by kernel_rfl) (fun _ _ _ h => h) (Or.inl ⟨by rfl, fun W hW => ?_⟩) (by assumption) ?_
      . first | (go_simp; done) | (obtain ⟨hr, c8, c11, c12, c7, c1⟩ := NK'.out W hW; simp [execOp, *]; done)
      try simp only [Act.put, List.setIfInBounds_toArray, List.set_cons_zero, List.set_cons_succ]
      refine wpAnyH_take (i := 4) (v := .pointer (some ⟨g, k * 18 + 8, none⟩)) (rfl : _ = some (Oper.mk _ _ _ _ _ _)) (by kernel_rfl) (by kernel_rfl) (by kernel_rfl) (fun _ _ _ h => h) (Or.inl ⟨by rfl, fun W hW => ?_⟩) (by assumption) ?_
      . first | (go_simp; done) | (obtain ⟨hr, c8, c11, c12, c7, c1⟩ := NK'.out W hW; simp [execOp, *]; done)
      try simp only [Act.put, List.setIfInBounds_toArray, List.set_cons_zero, List.set_cons_succ]
      refine wpAnyH_take (i := 5) (v := .string xs[k].id) (rfl : _ = some (Oper.mk _ _ _ _ _ _)) (by kernel_rfl) (by kernel_rfl) (by kernel_rfl) (fun _ _ _ h => h) (Or.inl ⟨by rfl, fun W hW => ?_⟩) (by assumption) ?_
      . first | (obtain ⟨hr, c8, c11, c12, c7, c1⟩ := NK'.out W hW; go_simp; done) | (obtain ⟨hr, c8, c11, c12, c7, c1⟩ := NK'.out W hW; simp [execOp, *]; done)
      try simp only [Act.put, List.setIfInBounds_toArray, List.set_cons_zero, List.set_cons_succ]
      refine wpAnyH_take (i := 6) (v := .slice (some ⟨g, 0, none⟩) xs.length c) (rfl : _ = some (Oper.mk _ _ _ _ _ _)) (by kernel_rfl) (by kernel_rfl) (by kernel_rfl) (fun _ _ _ h => h) (Or.inl ⟨by rfl, fun W hW => ?_⟩) (by assumption) ?_
      . first | (go_simp; done) | (obtain ⟨hr, c8, c11, c12, c7, c1⟩ := NK'.out W hW; simp [execOp, *]; done)
      try simp only [Act.put, List.setIfInBounds_toArray, List.set_cons_zero, List.set_cons_succ]
      refine wpAnyH_take (i := 7) (v := .int .i64 k) (rfl : _ = some (Oper.mk _ _ _ _ _ _)) (by kernel_rfl) (by kernel_rfl) (by kernel_rfl) (fun _ _ _ h => h) (Or.inl ⟨by rfl, fun W hW => ?_⟩) (by assumption) ?_
      . first | (go_simp; done) | (obtain ⟨hr, c8, c11, c12, c7, c1⟩ := NK'.out W hW; simp [execOp, *]; done)
      try simp only [Act.put, List.setIfInBounds_toArray, List.set_cons_zero, List.set_cons_succ]
      refine wpAnyH_take (i := 8) (v := .pointer (some ⟨g, k * 18, none⟩)) (rfl : _ = some (Oper.mk _ _ _ _ _ _)) (by kernel_rfl) (by kernel_rfl) (by kernel_rfl) (fun _ _ _ h => h) (Or.inl ⟨by rfl, fun W hW => ?_⟩) (by assumption) ?_
      . first | (go_simp; done) | (obtain ⟨hr, c8, c11, c12, c7, c1⟩ := NK'.out W hW; simp [execOp, *]; done)
      try simp only [Act.put, List.setIfInBounds_toArray, List.set_cons_zero, List.set_cons_succ]
      refine wpAnyH_take (i := 9) (v := .pointer (some ⟨g, k * 18 + 11, none⟩)) (rfl : _ = some (Oper.mk _ _ _ _ _ _)) (by kernel_rfl) (by kernel_rfl) (by kernel_rfl) (fun _ _ _ h => h) (Or.inl ⟨by rfl, fun W hW => ?_⟩) (by assumption) ?_
      . first | (go_simp; done) | (obtain ⟨hr, c8, c11, c12, c7, c1⟩ := NK'.out W hW; simp [execOp, *]; done)
      try simp only [Act.put, List.setIfInBounds_toArray, List.set_cons_zero, List.set_cons_succ]
      refine wpAnyH_take (i := 10) (v := .int .u32 xs[k].extent) (rfl : _ = some (Oper.mk _ _ _ _ _ _)) (by kernel_rfl) (by kernel_rfl) (by kernel_rfl) (fun _ _ _ h => h) (Or.inl ⟨by rfl, fun W hW => ?_⟩) (by assumption) ?_
      . first | (obtain ⟨hr, c8, c11, c12, c7, c1⟩ := NK'.out W hW; go_simp; done) | (obtain ⟨hr, c8, c11, c12, c7, c1⟩ := NK'.out W hW; simp [execOp, *]; done)
      try simp only [Act.put, List.setIfInBounds_toArray, List.set_cons_zero, List.set_cons_succ]
      refine wpAnyH_take (i := 11) (v := .slice (some ⟨g, 0, none⟩) xs.length c) (rfl : _ = some (Oper.mk _ _ _ _ _ _)) (by kernel_rfl) (by kernel_rfl) (by kernel_rfl) (fun _ _ _ h => h) (Or.inl ⟨by rfl, fun W hW => ?_⟩) (by assumption) ?_
      . first | (go_simp; done) | (obtain ⟨hr, c8, c11, c12, c7, c1⟩ := NK'.out W hW; simp [execOp, *]; done)
      try simp only [Act.put, List.setIfInBounds_toArray, List.set_cons_zero, List.set_cons_succ]
      refine wpAnyH_take (i := 12) (v := .int .i64 k) (rfl : _ = some (Oper.mk _ _ _ _ _ _)) (by kernel_rfl) (by kernel_rfl) (by kernel_rfl) (fun _ _ _ h => h) (Or.inl ⟨by rfl, fun W hW => ?_⟩) (by assumption) ?_
      . first | (go_simp; done) | (obtain ⟨hr, c8, c11, c12, c7, c1⟩ := NK'.out W hW; simp [execOp, *]; done)
      try simp only [Act.put, List.setIfInBounds_toArray, List.set_cons_zero, List.set_cons_succ]
      refine wpAnyH_take (i := 13) (v := .pointer (some ⟨g, k * 18, none⟩)) (rfl : _ = some (Oper.mk _ _ _ _ _ _)) (by kernel_rfl) (by kernel_rfl) (by kernel_rfl) (fun _ _ _ h => h) (Or.inl ⟨by rfl, fun W hW => ?_⟩) (by assumption) ?_
      . first | (go_simp; done) | (obtain ⟨hr, c8, c11, c12, c7, c1⟩ := NK'.out W hW; simp [execOp, *]; done)
      try simp only [Act.put, List.setIfInBounds_toArray, List.set_cons_zero, List.set_cons_succ]
      refine wpAnyH_take (i := 14) (v := .pointer (some ⟨g, k * 18 + 12, none⟩)) (rfl : _ = some (Oper.mk _ _ _ _ _ _)) (by kernel_rfl) (by kernel_rfl) (by kernel_rfl) (fun _ _ _ h => h) (Or.inl ⟨by rfl, fun W hW => ?_⟩) (by assumption) ?_
      . first | (go_simp; done) | (obtain ⟨hr, c8, c11, c12, c7, c1⟩ := NK'.out W hW; simp [execOp, *]; done)
      try simp only [Act.put, List.setIfInBounds_toArray, List.set_cons_zero, List.set_cons_succ]
      refine wpAnyH_take (i := 15) (v := .int .u32 xs[k].size) (rfl : _ = some (Oper.mk _ _ _ _ _ _)) (by kernel_rfl) (by kernel_rfl) (by kernel_rfl) (fun _ _ _ h => h) (Or.inl ⟨by rfl, fun W hW => ?_⟩) (by assumption) ?_
      . first | (obtain ⟨hr, c8, c11, c12, c7, c1⟩ := NK'.out W hW; go_simp; done) | (obtain ⟨hr, c8, c11, c12, c7, c1⟩ := NK'.out W hW; simp [execOp, *]; done)
      try simp only [Act.put, List.setIfInBounds_toArray, List.set_cons_zero, List.set_cons_succ]
      refine wpAnyH_take (i := 16) (v := .slice (some ⟨g, 0, none⟩) xs.length c) (rfl : _ = some (Oper.mk _ _ _ _ _ _)) (by kernel_rfl) (by kernel_rfl) (by kernel_rfl) (fun _ _ _ h => h) (Or.inl ⟨by rfl, fun W hW => ?_⟩) (by assumption) ?_
      . first | (go_simp; done) | (obtain ⟨hr, c8, c11, c12, c7, c1⟩ := NK'.out W hW; simp [execOp, *]; done)
      try simp only [Act.put, List.setIfInBounds_toArray, List.set_cons_zero, List.set_cons_succ]
      refine wpAnyH_take (i := 17) (v := .int .i64 k) (rfl : _ = some (Oper.mk _ _ _ _ _ _)) (by kernel_rfl) (by kernel_rfl) (by kernel_rfl) (fun _ _ _ h => h) (Or.inl ⟨by rfl, fun W hW => ?_⟩) (by assumption) ?_
      . first | (go_simp; done) | (obtain ⟨hr, c8, c11, c12, c7, c1⟩ := NK'.out W hW; simp [execOp, *]; done)
      try simp only [Act.put, List.setIfInBounds_toArray, List.set_cons_zero, List.set_cons_succ]
      refine wpAnyH_take (i := 18) (v := .pointer (some ⟨g, k * 18, none⟩)) (rfl : _ = some (Oper.mk _ _ _ _ _ _)) (by kernel_rfl) (by kernel_rfl) (by kernel_rfl) (fun _ _ _ h => h) (Or.inl ⟨by rfl, fun W hW => ?_⟩) (by assumption) ?_
      . first | (go_simp; done) | (obtain ⟨hr, c8, c11, c12, c7, c1⟩ := NK'.out W hW; simp [execOp, *]; done)
      try simp only [Act.put, List.setIfInBounds_toArray, List.set_cons_zero, List.set_cons_succ]
      refine wpAnyH_take (i := 19) (v := .pointer (some ⟨g, k * 18, none⟩)) (rfl : _ = some (Oper.mk _ _ _ _ _ _)) (by kernel_rfl) (by kernel_rfl) (by kernel_rfl) (fun _ _ _ h => h) (Or.inl ⟨by rfl, fun W hW => ?_⟩) (by assumption) ?_
      . first | (go_simp; done) | (obtain ⟨hr, c8, c11, c12, c7, c1⟩ := NK'.out W hW; simp [execOp, *]; done)
      try simp only [Act.put, List.setIfInBounds_toArray, List.set_cons_zero, List.set_cons_succ]
      refine wpAnyH_take (i := 20) (v := .pointer (some ⟨g, k * 18 + 7, none⟩)) (rfl : _ = some (Oper.mk _ _ _ _ _ _)) (by kernel_rfl) (by kernel_rfl) (by kernel_rfl) (fun _ _ _ h => h) (Or.inl ⟨by rfl, fun W hW => ?_⟩) (by assumption) ?_
      . first | (go_simp; done) | (obtain ⟨hr, c8, c11, c12, c7, c1⟩ := NK'.out W hW; simp [execOp, *]; done)
      try simp only [Act.put, List.setIfInBounds_toArray, List.set_cons_zero, List.set_cons_succ]
      refine wpAnyH_take (i := 21) (v := .int .i64 xs[k].f.time) (rfl : _ = some (Oper.mk _ _ _ _ _ _)) (by kernel_rfl) (by kernel_rfl) (by kernel_rfl) (fun _ _ _ h => h) (Or.inl ⟨by rfl, fun W hW => ?_⟩) (by assumption) ?_
      . first | (obtain ⟨hr, c8, c11, c12, c7, c1⟩ := NK'.out W hW; go_simp; done) | (obtain ⟨hr, c8, c11, c12, c7, c1⟩ := NK'.out W hW; simp [execOp, *]; done)
      try simp only [Act.put, List.setIfInBounds_toArray, List.set_cons_zero, List.set_cons_succ]
      refine wpAnyH_take (i := 22) (v := .slice (some ⟨g, 0, none⟩) xs.length c) (rfl : _ = some (Oper.mk _ _ _ _ _ _)) (by kernel_rfl) (by kernel_rfl) (by kernel_rfl) (fun _ _ _ h => h) (Or.inl ⟨by rfl, fun W hW => ?_⟩) (by assumption) ?_
      . first | (go_simp; done) | (obtain ⟨hr, c8, c11, c12, c7, c1⟩ := NK'.out W hW; simp [execOp, *]; done)
      try simp only [Act.put, List.setIfInBounds_toArray, List.set_cons_zero, List.set_cons_succ]
      refine wpAnyH_take (i := 23) (v := .int .i64 k) (rfl : _ = some (Oper.mk _ _ _ _ _ _)) (by kernel_rfl) (by kernel_rfl) (by kernel_rfl) (fun _ _ _ h => h) (Or.inl ⟨by rfl, fun W hW => ?_⟩) (by assumption) ?_
      . first | (go_simp; done) | (obtain ⟨hr, c8, c11, c12, c7, c1⟩ := NK'.out W hW; simp [execOp, *]; done)
      try simp only [Act.put, List.setIfInBounds_toArray, List.set_cons_zero, List.set_cons_succ]
      refine wpAnyH_take (i := 24) (v := .pointer (some ⟨g, k * 18, none⟩)) (rfl : _ = some (Oper.mk _ _ _ _ _ _)) (by kernel_rfl) (by kernel_rfl) (by kernel_rfl) (fun _ _ _ h => h) (Or.inl ⟨by rfl, fun W hW => ?_⟩) (by assumption) ?_
      . first | (go_simp; done) | (obtain ⟨hr, c8, c11, c12, c7, c1⟩ := NK'.out W hW; simp [execOp, *]; done)
      try simp only [Act.put, List.setIfInBounds_toArray, List.set_cons_zero, List.set_cons_succ]
      refine wpAnyH_take (i := 25) (v := .pointer (some ⟨g, k * 18, none⟩)) (rfl : _ = some (Oper.mk _ _ _ _ _ _)) (by kernel_rfl) (by kernel_rfl) (by kernel_rfl) (fun _ _ _ h => h) (Or.inl ⟨by rfl, fun W hW => ?_⟩) (by assumption) ?_
      . first | (go_simp; done) | (obtain ⟨hr, c8, c11, c12, c7, c1⟩ := NK'.out W hW; simp [execOp, *]; done)
      try simp only [Act.put, List.setIfInBounds_toArray, List.set_cons_zero, List.set_cons_succ]
      refine wpAnyH_take (i := 26) (v := .pointer (some ⟨g, k * 18 + 1, none⟩)) (rfl : _ = some (Oper.mk _ _ _ _ _ _)) (by kernel_rfl) (by kernel_rfl) (by kernel_rfl) (fun _ _ _ h => h) (Or.inl ⟨by rfl, fun W hW => ?_⟩) (by assumption) ?_
      . first | (go_simp; done) | (obtain ⟨hr, c8, c11, c12, c7, c1⟩ := NK'.out W hW; simp [execOp, *]; done)
      try simp only [Act.put, List.setIfInBounds_toArray, List.set_cons_zero, List.set_cons_succ]
      refine wpAnyH_take (i := 27) (v := .bool xs[k].f.dir) (rfl : _ = some (Oper.mk _ _ _ _ _ _)) (by kernel_rfl) (by kernel_rfl) (by kernel_rfl) (fun _ _ _ h => h) (Or.inl ⟨by rfl, fun W hW => ?_⟩) (by assumption) ?_
      . first | (obtain ⟨hr, c8, c11, c12, c7, c1⟩ := NK'.out W hW; go_simp; done) | (obtain ⟨hr, c8, c11, c12, c7, c1⟩ := NK'.out W hW; simp [execOp, *]; done)
      try simp only [Act.put, List.setIfInBounds_toArray, List.set_cons_zero, List.set_cons_succ]
      refine wpAnyH_take (i := 28) (v := .func (.func 54) #[] #[.pointer (some ⟨w.heap.size, 0, none⟩)]) (rfl : _ = some (Oper.mk _ _ _ _ _ _)) (by kernel_rfl) (by kernel_rfl) (by kernel_rfl) (fun _ _ _ h => h) (Or.inl ⟨by rfl, fun W hW => ?_⟩) (by assumption) ?_
      . first | (go_simp; done) | (obtain ⟨hr, c8, c11, c12, c7, c1⟩ := NK'.out W hW; simp [execOp, *]; done)
      try simp only [Act.put, List.setIfInBounds_toArray, List.set_cons_zero, List.set_cons_succ]
      refine wpAnyH_take (i := 29) (v := .slice (some ⟨g, 0, none⟩) xs.length c) (rfl : _ = some (Oper.mk _ _ _ _ _ _)) (by kernel_rfl) (by kernel_rfl) (by kernel_rfl) (fun _ _ _ h => h) (Or.inl ⟨by rfl, fun W hW => ?_⟩) (by assumption) ?_
      . first | (go_simp; done) | (obtain ⟨hr, c8, c11, c12, c7, c1⟩ := NK'.out W hW; simp [execOp, *]; done)
      try simp only [Act.put, List.setIfInBounds_toArray, List.set_cons_zero, List.set_cons_succ]
      refine wpAnyH_take (i := 30) (v := .int .i64 k) (rfl : _ = some (Oper.mk _ _ _ _ _ _)) (by kernel_rfl) (by kernel_rfl) (by kernel_rfl) (fun _ _ _ h => h) (Or.inl ⟨by rfl, fun W hW => ?_⟩) (by assumption) ?_
      . first | (go_simp; done) | (obtain ⟨hr, c8, c11, c12, c7, c1⟩ := NK'.out W hW; simp [execOp, *]; done)
      try simp only [Act.put, List.setIfInBounds_toArray, List.set_cons_zero, List.set_cons_succ]
      refine wpAnyH_take (i := 31) (v := .pointer (some ⟨g, k * 18, none⟩)) (rfl : _ = some (Oper.mk _ _ _ _ _ _)) (by kernel_rfl) (by kernel_rfl) (by kernel_rfl) (fun _ _ _ h => h) (Or.inl ⟨by rfl, fun W hW => ?_⟩) (by assumption) ?_
      . first | (go_simp; done) | (obtain ⟨hr, c8, c11, c12, c7, c1⟩ := NK'.out W hW; simp [execOp, *]; done)
      try simp only [Act.put, List.setIfInBounds_toArray, List.set_cons_zero, List.set_cons_succ]
      refine wpAnyH_take (i := 32) (rfl : _ = some (Oper.mk _ _ _ _ _ _)) (by kernel_rfl) (by kernel_rfl) (by kernel_rfl) (fun _ _ _ h => h) (yieldsIf_load_mid (by rfl) 64 _ rfl g (k * 18) rfl xs[k].cells _ (fun W hW => (NK'.out W hW).1) under64.choose_spec.1 under64.choose_spec.2 info64) (by assumption) ?_
      try simp only [Act.put, List.setIfInBounds_toArray, List.set_cons_zero, List.set_cons_succ]
      refine wpAnyH_ready (rs := [33]) (by kernel_rfl) (by simp) ?_
      refine AllReadyH.cons (rfl : _ = some (Oper.mk _ _ _ _ _ _)) (fun K hKK => ?_) AllReadyH.nil
      rw [if_pos (by rfl)]
      go_simp
      refine (su_gen xs[k] w.heap.size B area xs[k].place xs[k].more.length wr.drew (RW'.out _ HKX.out).at0 ((HN.out.su _ (List.getElem_mem hkl2)).later (RW'.out _ HKX.out).below.drew) (by have := hsu k hkl2; omega) rfl (hmore k hkl2).2 har rfl (hmore k hkl2).1).mono ?_; rintro e u1 ⟨⟨vs1, rfl, hrd⟩, hb1⟩; have hbr1 : Below wr.heap.size wr u1 := (Below.refl _ _).drew.trans hb1; have hOu1 := HO.out.later hbr1; have hKu1 := HKX.out.trans (KeptX.of (hbr1.mono HO.out.le))
      go_wp2_with fail
      refine hKK.out _ _ (by exact hKu1) (fun hHeld' => ?_)
      clear hKK K hHeld
      have hHeld := hHeld'
      clear hHeld'
      try simp only [Act.put, List.setIfInBounds_toArray, List.set_cons_zero, List.set_cons_succ]
      refine wpAnyH_ready (rs := [34]) (by kernel_rfl) (by simp) ?_
      refine AllReadyH.cons (rfl : _ = some (Oper.mk _ _ _ _ _ _)) (fun K hKK => ?_) AllReadyH.nil
      rw [if_pos (by rfl)]
      go_simp
      refine (isoRecord_any xs[k].id xs[k].extent xs[k].size xs[k].f.time xs[k].f.dir _ (kidSu area xs[k].toNode) u1 (hid k hkl2) (hex k hkl2) (hsz k hkl2) (ht k hkl2).1 (ht k hkl2).2 (hks k hkl2) hrd).mono ?_; rintro e u2 ⟨⟨v2, rfl, hO2⟩, hb2⟩; obtain ⟨A2, cy2, rfl, hA2, _⟩ := hO2.shape; obtain ⟨q, hq⟩ : ∃ q, (isoRec xs[k].id.data.toList xs[k].extent xs[k].size xs[k].f.time xs[k].f.dir (kidSu area xs[k].toNode)).length = q := ⟨_, rfl⟩; rw [hq] at hO2 ⊢; have hq1 := rec_le xs[k].id xs[k].extent xs[k].size xs[k].f.time xs[k].f.dir (kidSu area xs[k].toNode) q hq (hid k hkl2) (hks k hkl2); have hQ := Lib.hid hq; clear hq; have hOu2 := hOu1.later hb2; have hKu2 := hKu1.trans (KeptX.of (hb2.mono hOu1.le))
      go_wp2_with fail
      refine hKK.out _ _ (by exact hKu2) (fun hHeld' => ?_)
      clear hKK K hHeld
      have hHeld := hHeld'
      clear hHeld'
      try simp only [Act.put, List.setIfInBounds_toArray, List.set_cons_zero, List.set_cons_succ]
      refine wpAnyH_ready (rs := [35]) (by kernel_rfl) (by simp) ?_
      refine AllReadyH.cons (rfl : _ = some (Oper.mk _ _ _ _ _ _)) (fun K hKK => ?_) AllReadyH.nil
      rw [if_pos (by rfl)]
      go_simp
      refine (add_any V Wr.heap.size u1.heap.size n' q c' cy2 A' A2 l _ u2 hOu2 hQ.out hO2 (fun b hb => (World.ownsRow.lt hOu1.own b hb).2) (Nat.lt_of_lt_of_le hVR hOu1.le) hq1 (by omega)).mono ?_; rintro e u3 ⟨A3, c3, n3, rfl, hO3, hn3, hk3⟩; have hKu3 := hKu2.trans hk3
      go_wp2_with fail
      refine hKK.out _ _ (by exact hKu3) (fun hHeld' => ?_)
      clear hKK K hHeld
      have hHeld := hHeld'
      clear hHeld'
      try simp only [Act.put, List.setIfInBounds_toArray, List.set_cons_zero, List.set_cons_succ]
      refine wpAnyH_done (by kernel_rfl) ?_ _
      go_wp2_with fail
      go_roundw
      case rel => exact ⟨j + 1, n3, c3, A3, _, hlt, by simp, hO3, hKu3, by omega, by unfold Hid; rw [rowsX_succ D0 D1 xs i p area j k hi hlt HKK.out, List.foldl_append, <- hl'.out, nodeAt_ns xs k hkl2]; rfl⟩
      case measure => simp [intOf]; omega
    . have hje : j = xs[i].kids.length := by omega
      have hDB : dirBytesR rock area (XNode.ns xs) i = padSec l := by
       unfold dirBytesR
       rw [hl'.out, hje, HALL.out]
      have hcV := hO.cell
      have hln := hO.len
      have HDB := Lib.hid hDB; have HLN := Lib.hid hln; have HO := Lib.hid hO
      clear hDB hln hl' hO
      subst hje
      by_cases hr : 0 < n' % 2048
      . go_wp2_with (at_builtin; refine asList rfl fun KK hKK => ?_; refine go_appZ (.tmp 137) (.tmp 139) rfl Wr.heap.size n' c' (2048 - n' % 2048) A' l HLN.out.symm rfl HO.out.own _ rfl (by omega) (by omega) (by omega) HO.out.le ?_; intro A1 c1 w1 hO1 hb1 hg1; refine hKK _ _ ?_; clear hKK KK; obtain ⟨hV1, hcV1, hfV1⟩ := HO.out.app hO1 (by rw [List.length_append, HLN.out, List.length_replicate]) hg1; have hcV1' := hV1.cell)
        go_ret
        have e : dirBytesR rock area (XNode.ns xs) i = l ++ List.replicate (2048 - n' % 2048) 0 := by
         rw [HDB.out]; unfold padSec; rw [HLN.out, if_pos hr]; rfl
        have el : (dirBytesR rock area (XNode.ns xs) i).length = n' + (2048 - n' % 2048) := by rw [e, List.length_append, HLN.out, List.length_replicate]
        rw [el, e]
        exact ⟨_, _, rfl, hV1.own.lower hWbS, HWB.out.trans (((hK.trans (KeptX.of hb1)).setCell _).below hVw hWbS)⟩
      . go_wp2_with fail
        go_ret
        have e : dirBytesR rock area (XNode.ns xs) i = l := by
         rw [HDB.out]; unfold padSec; rw [HLN.out, if_neg hr]
        have el : (dirBytesR rock area (XNode.ns xs) i).length = n' := by rw [e, HLN.out]
        rw [el, e]
        exact ⟨_, _, rfl, HO.out.own.lower hWbS, HWB.out.trans (hK.below hVw hWbS)⟩
end Go.Proofs.YtilgpaeeleknhaaGreatDoor
