/-
  DERIVED. A part of the proof of laws.FnIsoPaths (for every input the law returns true and each argument reads as before; the listed variables read as listed when the call begins). It holds:
  · Walks: IsoImage, without Rock Ridge.
  · The image while it is laid.
  · Walks: IsoImage, without Rock Ridge.
-/
import Derived.Test.YtilgpaeeleknhaaGreatDoorIq24
import Derived.Test.YtilgpaeeleknhaaGreatDoorIq19
import Derived.Lib.SlBytesConst
section
namespace Go.Proofs.YtilgpaeeleknhaaGreatDoor
open Go Go.RowKit
set_option linter.unusedSimpArgs false
set_option linter.unusedVariables false

theorem addFiles_all {rock : Bool} {l : List File} (Q : Node → Prop) (hk : ∀ n m, Q n → Q { n with kids := m }) {ns ms : List Node} (hnew : ∀ f ∈ l, ∀ k p v, Q (newNode f (idOf rock k (cutLast f.p).2 f.dir) p v)) (h : addFiles rock ns l = some ms) (hs : ∀ n ∈ ns, Q n) : ∀ n ∈ ms, Q n := by
  induction l generalizing ns with
  | nil => cases h; exact hs
  | cons f l ih =>
    simp only [addFiles] at h
    cases hf : stepFile rock ns f with
    | none => rw [hf] at h; cases h
    | some ms' =>
      rw [hf] at h
      refine ih (fun g hg => hnew g (by simp [hg])) h ?_
      unfold stepFile at hf
      simp only at hf
      split at hf
      case isFalse => cases hf
      case isTrue hp =>
        split at hf
        · cases hf
        · cases hf
          intro n hn
          rw [List.mem_append, List.mem_singleton] at hn
          rcases hn with hn | rfl
          · rcases List.mem_or_eq_of_mem_set hn with hn | rfl
            · exact hs n hn
            · exact hk _ _ (hs _ (List.getElem_mem hp))
          · exact hnew f (by simp) _ _ _
/-- What is asked of each file. -/
structure FileOk (f : File) : Prop where
  path : f.path.size ≤ 900
  data : f.data.size ≤ 60000
  t0 : -9223372036854775808 ≤ f.time
  t1 : f.time ≤ 9223372036854775807
structure NodeOk (n : Node) : Prop where
  ext : n.extent = 0
  size : n.size = 0
  num : n.number = 0
  id : n.id.size ≤ 1000
  data : n.f.data.size ≤ 60000
  t0 : -9223372036854775808 ≤ n.f.time
  t1 : n.f.time ≤ 9223372036854775807
  su : n.su = []
  more : n.more = []
theorem nodes_ok {fs : List File} {ns : List Node} (hf : ∀ f ∈ fs, FileOk f) (h : addFiles false [rootNode] fs = some ns) : ∀ n ∈ ns, NodeOk n := by
  refine addFiles_all NodeOk (fun n m h => ⟨h.ext, h.size, h.num, h.id, h.data, h.t0, h.t1, h.su, h.more⟩) ?_ h ?_
  · intro f hfm k p v
    have ho := hf f hfm
    refine ⟨rfl, rfl, rfl, ?_, ho.data, ho.t0, ho.t1, rfl, rfl⟩
    show (ofL (idOf false k (cutLast f.p).2 f.dir)).size ≤ 1000
    have hl : (ofL (idOf false k (cutLast f.p).2 f.dir)).size = (idOf false k (cutLast f.p).2 f.dir).length := by simp [ofL, ByteArray.size]
    have hc := cutLast_len f.p
    have hp : f.p.length = f.path.size := by rw [Array.length_toList]; rfl
    have := ho.path
    rw [hl]
    unfold idOf
    simp only [List.length_append, Bool.false_eq_true, if_false]
    split <;> simp <;> omega
  · intro n hn
    rw [List.mem_singleton] at hn
    subst hn
    exact ⟨rfl, rfl, rfl, by decide, by decide, by decide, by decide, rfl, rfl⟩
theorem okxs_of {fs : List File} {ns : List Node} {xs : List XNode} (hl : fs.length ≤ 60) (hf : ∀ f ∈ fs, FileOk f) (h : addFiles false [rootNode] fs = some ns) (hs : Shuf ns (XNode.ns xs)) : OkXs xs.length xs := by
  have hS := addFiles_sane h Sane.root
  have hN := nodes_ok hf h
  have hF := addFiles_fam h (Fam.start false)
  rw [List.nil_append] at hF
  have hnl := hF.len
  have hxl : ns.length = xs.length := by rw [hs.1]; simp [XNode.ns]
  refine ⟨rfl, fun x hx => ?_⟩
  obtain ⟨i, hi, e⟩ := List.mem_iff_getElem.1 hx
  have hi' : i < ns.length := by omega
  obtain ⟨l, hp, e2⟩ := hs.2 i hi' (by rw [← hs.1]; exact hi')
  have e3 : x.toNode = { ns[i] with kids := l } := by rw [← e2, ← e]; simp [XNode.ns]
  have hm := List.getElem_mem hi'
  have ho := hN _ hm
  have hpar : ns[i].parent < xs.length := by rw [← hxl]; exact hS.parent _ hm
  have hx0 : x.toNode.su = [] ∧ x.toNode.more = [] ∧ x.toNode.id.size ≤ 1000 ∧ x.toNode.f.data.size ≤ 60000 ∧ -9223372036854775808 ≤ x.toNode.f.time ∧ x.toNode.f.time ≤ 9223372036854775807 ∧ x.toNode.parent < xs.length ∧ x.toNode.kids = l ∧ x.toNode.extent = 0 ∧ x.toNode.size = 0 ∧ x.toNode.number = 0 := by
    rw [e3]
    exact ⟨ho.su, ho.more, ho.id, ho.data, ho.t0, ho.t1, hpar, rfl, ho.ext, ho.size, ho.num⟩
  obtain ⟨h1, h2, h3, h4, h5, h6, h7, h8, h9, h10, h11⟩ := hx0
  refine ⟨h1, h2, h3, h4, h5, h6, h7, ?_, ?_, by rw [h9]; decide, by rw [h10]; decide, by rw [h11]; decide⟩
  · intro k hk
    rw [h8] at hk
    rw [← hxl]
    exact hS.kid _ hm k (hp.mem_iff.1 hk)
  · rw [h8, hp.length_eq]
    have := hS.kids _ hm
    omega
theorem okxs_num {xs ys : List XNode} {ds : List Nat} (h : OkXs xs.length xs) (hn : Num xs ys ds) (hd : ds.length ≤ 99) : OkXs xs.length ys := by
  refine ⟨hn.1, fun y hy => ?_⟩
  obtain ⟨i, hi, e⟩ := List.mem_iff_getElem.1 hy
  have hi' : i < xs.length := by rw [← hn.1]; exact hi
  have e2 := hn.2 i hi' hi
  have ho := h.2 _ (List.getElem_mem hi')
  rw [e] at e2
  subst e2
  refine ⟨ho.su, ho.more, ho.id, ho.data, ho.t0, ho.t1, ho.par, ho.kid, ho.kids, ho.ext, ho.size, ?_⟩
  show (if i ∈ ds then ds.idxOf i + 1 else xs[i].number) ≤ 100
  split
  · have := List.idxOf_le_length (a := i) (l := ds); omega
  · exact ho.num
theorem paths_le {n : Nat} {zs : List XNode} (h : OkXs n zs) (little : Bool) (ds : List Nat) (hd : ∀ d ∈ ds, d < zs.length) : (pathsL (XNode.ns zs) little ds).length ≤ ds.length * 1010 := by
  rw [pathsL_length]
  induction ds with
  | nil => simp
  | cons d ds ih =>
    have h1 := ih (fun x hx => hd x (by simp [hx]))
    have hdl := hd d (by simp)
    have hi := (h.2 _ (List.getElem_mem hdl)).id
    have e : (pathId (XNode.ns zs) d).length ≤ 1000 := by
      unfold pathId
      split
      · decide
      · rw [nodeAt_ns zs d hdl]
        show (zs[d].id.data.toList).length ≤ 1000
        rw [Array.length_toList]; exact hi
    have e2 : evn (pathId (XNode.ns zs) d).length ≤ 1001 := by unfold evn; split <;> omega
    simp only [List.map_cons, List.sum_cons, List.length_cons]
    omega
end Go.Proofs.YtilgpaeeleknhaaGreatDoor
end

section
namespace Go.Proofs.YtilgpaeeleknhaaGreatDoor
open Go Go.RowKit
set_option linter.unusedSimpArgs false
set_option linter.unusedVariables false

structure IM (w0 w : World) (g c n Bd co : Nat) (A : Option Addr) (zs : List XNode) (ds : List Nat) (V O N : Nat) (img : List UInt8) : Prop where
  is : IS w0 w g c n Bd co A zs ds
  var : w.heap[V]? = some (.cells #[.slice (some ⟨O, 0, none⟩) N N] 27)
  own : Own w O (.slice (some ⟨O, 0, none⟩) N N) img
  len : N = img.length
  lt : w0.heap.size ≤ O ∧ O < V
  nodes : NodesB O (.slice (some ⟨g, 0, none⟩) n c) zs
  dirs : ∀ k, (Value.slice A ds.length co).ownBlock = some k → k < O
theorem IM.cell {w0 w : World} {g c n Bd co V O N : Nat} {A : Option Addr} {zs : List XNode} {ds : List Nat} {img : List UInt8} (h : IM w0 w g c n Bd co A zs ds V O N img) : w.cell? ⟨V, 0, none⟩ = some (.slice (some ⟨O, 0, none⟩) N N) := by simp [World.cell?, h.var]
theorem IM.vlt {w0 w : World} {g c n Bd co V O N : Nat} {A : Option Addr} {zs : List XNode} {ds : List Nat} {img : List UInt8} (h : IM w0 w g c n Bd co A zs ds V O N img) : V < w.heap.size := (Array.getElem?_eq_some_iff.1 h.var).1
theorem IM.later {w0 w w' : World} {g c n Bd co V O N : Nat} {A : Option Addr} {zs : List XNode} {ds : List Nat} {img : List UInt8} (h : IM w0 w g c n Bd co A zs ds V O N img) (hb : Below w.heap.size w w') : IM w0 w' g c n Bd co A zs ds V O N img :=
  ⟨h.is.later hb, by rw [hb.block V h.vlt]; exact h.var, h.own.later hb, h.len, h.lt, h.nodes, h.dirs⟩
theorem IM.lay {w0 w : World} {g c n Bd co V O N : Nat} {A : Option Addr} {zs : List XNode} {ds : List Nat} {img : List UInt8} (h : IM w0 w g c n Bd co A zs ds V O N img) (B' q blk : Nat) (y : Value) (m : List UInt8) (hq : m.length = q) (hrd : Rd w B' y m) (hfit : blk * 2048 + q ≤ N) (hN1 : N ≤ 1000000000) (hb : blk < 4294967296) :
    Calls Tryz.prog 34 #[.int .u32 blk, y, .pointer (some ⟨V, 0, none⟩)] w fun e w' => e = .returned (.tuple #[]) ∧ ∃ img', Hid (img' = splice img (blk * 2048) m) ∧ IM w0 w' g c n Bd co A zs ds V O N img' ∧ w.grownBy w' (some O) := by
  refine (lay_any O B' V O N q blk y img m w h.cell h.len h.own hq hrd hfit hN1 hb).mono ?_
  rintro e w' ⟨rfl, hO, hg, hbl⟩
  refine ⟨rfl, _, rfl, ⟨⟨h.is.nodes.keep h.nodes hbl, h.is.ok, ownsRow_keep h.is.dirs hbl h.dirs, h.is.below.trans (hbl.mono h.lt.1)⟩, ?_, hO, ?_, h.lt, h.nodes, h.dirs⟩, hg⟩
  · have hvl := h.lt.2
    rw [hg.block V h.vlt (by simp; omega)]; exact h.var
  · rw [length_splice _ _ _ (by rw [hq, ← h.len]; exact hfit)]; exact h.len
theorem IM.start {w0 w w1 : World} {g c n Bd co N : Nat} {A : Option Addr} {zs : List XNode} {ds : List Nat} {L : List UInt8} (h : IS w0 w g c n Bd co A zs ds) (hL : L.length = N) (hO : Own w1 w.heap.size (.slice (some ⟨w.heap.size, 0, none⟩) N N) L) (hb : Below w.heap.size w w1) (hs : w1.heap.size = w.heap.size + 1) :
    IM w0 (w1.alloc (.cells #[.slice (some ⟨w.heap.size, 0, none⟩) N N] 27)) g c n Bd co A zs ds (w.heap.size + 1) w.heap.size N L := by
  have hb1 : Below w1.heap.size w1 (w1.alloc (.cells #[.slice (some ⟨w.heap.size, 0, none⟩) N N] 27)) := (Below.refl _ _).alloc (Nat.le_refl _) _
  refine ⟨(h.later hb).later hb1, ?_, hO.later hb1, hL.symm, ⟨h.below.size, Nat.lt_succ_self _⟩, h.nodes.bound, fun k hk => (World.ownsRow.lt h.dirs k hk).2⟩
  rw [← hs]
  show (w1.heap.push _)[w1.heap.size]? = _
  rw [Array.getElem?_push_size]
theorem rd_mark (w : World) (l : List UInt8) (fr : Nat × Nat) : Rd (w.alloc (.cells (BVs l).toArray 5 fr)) (w.heap.size + 1) (.slice (some ⟨w.heap.size, 0, none⟩) l.length l.length) l := by
  refine ⟨_, _, rfl, (by intro ad e; cases e; exact Nat.lt_succ_self _), fun j u hj => ⟨_, rfl, ?_⟩⟩
  rw [Addr.add_mid, Nat.zero_add]
  have hwc : (w.alloc (.cells (BVs l).toArray 5 fr)).heap[w.heap.size]? = some (.cells (BVs l).toArray 5 fr) := by
    show (w.heap.push _)[w.heap.size]? = _; rw [Array.getElem?_push_size]
  simp only [World.cell?, hwc]
  simpa using hj
theorem wp_convFb {o : Oper} {a : Act} {w : World} {K : Act → World → Prop} {Q : Exit → Act → World → Prop} (x : Operand) (ho : o.op = .convert 9 27 x) (s : ByteArray) (n : Nat) (hn : n = s.size) (hs : s.size ≤ 1000000000)
    (hx : a.eval x = .string s) (hK : ∀ b c w', OwnF w' w.heap.size (.slice (some ⟨b, 0, none⟩) n c) s.data.toList → Below w.heap.size w w' → K (a.put o.dst (.slice (some ⟨b, 0, none⟩) n c)) w') : Oper.wp Tryz.prog o a w K Q :=
  wp_convF x ho s n hn hs hx (fun c w' h1 h2 => hK _ c w' h1 h2)
def nodeLays (ks : List Node) (t : Nat) : List (Nat × List UInt8) := (List.range t).map (fun i => ((nodeAt ks i).extent, content ks i))
theorem layAll_snoc (out : List UInt8) (l : List (Nat × List UInt8)) (x : Nat × List UInt8) : layAll out (l ++ [x]) = splice (layAll out l) (x.1 * 2048) x.2 := by simp [layAll]
theorem nodeLays_succ (ks : List Node) (t : Nat) : nodeLays ks (t + 1) = nodeLays ks t ++ [((nodeAt ks t).extent, content ks t)] := by
  unfold nodeLays; rw [List.range_succ, List.map_append]; rfl
theorem IM.recordsAt {w0 w W : World} {g c n Bd co V O N : Nat} {A : Option Addr} {zs : List XNode} {ds : List Nat} {img : List UInt8} (h : IM w0 w g c n Bd co A zs ds V O N img) (hW : Below w.heap.size w W) (i area : Nat) (hi : i < zs.length) (hn : n ≤ 100) :
    Calls Tryz.prog 33 #[.slice (some ⟨g, 0, none⟩) n c, .int .i64 i, .bool false, .int .u32 area] W fun e w' => ∃ A' c' q, e = .returned (.slice A' q c') ∧ Hid ((dirBytes (XNode.ns zs) i).length = q) ∧ Own w' W.heap.size (.slice A' q c') (dirBytes (XNode.ns zs) i) ∧ Below W.heap.size W w' ∧ IM w0 w' g c n Bd co A zs ds V O N img := by
  refine ((h.later hW).is.records i area hi hn).mono ?_
  rintro e w' ⟨A', c', q, rfl, hq, hO, hb⟩
  exact ⟨A', c', q, rfl, hq, hO, hb, (h.later hW).later hb⟩
end Go.Proofs.YtilgpaeeleknhaaGreatDoor
end

section
namespace Go.Proofs.YtilgpaeeleknhaaGreatDoor
open Go Go.RowKit
set_option linter.unusedSimpArgs false
set_option linter.unusedVariables false

def term7 : List UInt8 := [255, 67, 68, 48, 48, 49, 1]
/-- The files among the first nodes. -/
def filesTo (ns : List Node) (t : Nat) : List Nat := (List.range t).filter (fun i => !dirOf ns i)
/-- What IsoImage makes: the image, of nodes ks, the directories ds. -/
def Laid (ns : List Node) (vol : List UInt8) (ks : List Node) (ds : List Nat) (next : Nat) (img : List UInt8) : Prop :=
  ∃ xs ys : List XNode, ∃ L : Nat, Shuf ns (XNode.ns xs) ∧ OkXs xs.length xs ∧ Num xs ys ds ∧ BQ (XNode.ns xs) ds ds.length 0 ∧ L = (pathsL (XNode.ns ys) true ds).length ∧
    ext (XNode.ns ys) (18 + blocks L + blocks L) (ds ++ filesTo (XNode.ns ys) xs.length) = (ks, next) ∧
    img = imageOf ks next (pvdB vol (isoRec [0] (nodeAt ks 0).extent (nodeAt ks 0).size (nodeAt ks 0).f.time true []) next L 18 (18 + blocks L)) term7 (pathsL ks true ds) (pathsL ks false ds)

theorem ext_snoc {ns ms : List Node} {nx0 nx : Nat} {l : List Nat} {d : Nat} (h : ext ns nx0 l = (ms, nx)) : ext ns nx0 (l ++ [d]) = (setExt ms d nx (clen ms d), nx + blocks (clen ms d)) := by
  rw [ext_append, h]; rfl
theorem filesTo_dir (ns : List Node) (t : Nat) (h : dirOf ns t = true) : filesTo ns (t + 1) = filesTo ns t := by
  unfold filesTo; rw [List.range_succ, List.filter_append]; simp [h]
theorem filesTo_file (ns : List Node) (t : Nat) (h : dirOf ns t = false) : filesTo ns (t + 1) = filesTo ns t ++ [t] := by
  unfold filesTo; rw [List.range_succ, List.filter_append]; simp [h]
theorem pathsL_like {ns ms : List Node} (h : Like ns ms) (a b : Bool) (ds : List Nat) : (pathsL ms a ds).length = (pathsL ns b ds).length := by
  rw [pathsL_length, pathsL_length]
  congr 1
  apply List.map_congr_left
  intro i _
  unfold pathId
  rw [h.id]
theorem isoVolume_b (vol : ByteArray) (x : XNode) (blk pt li bi : Nat) (w : World) (hv : vol.size ≤ 32) (h1 : blk < 4294967296) (h2 : pt < 4294967296) (h3 : li < 4294967296) (h4 : bi < 4294967296) (h5 : x.extent < 4294967296) (h6 : x.size < 4294967296) (h7 : -9223372036854775808 ≤ x.f.time) (h8 : x.f.time ≤ 9223372036854775807) :
    Calls Tryz.prog 35 #[.string vol, .agg x.cells.toArray, .int .u32 blk, .int .u32 pt, .int .u32 li, .int .u32 bi] w fun e w' => ∃ b, e = .returned (.slice (some ⟨b, 0, none⟩) 2048 2048) ∧ Own w' w.heap.size (.slice (some ⟨b, 0, none⟩) 2048 2048) (pvdB vol.data.toList (isoRec [0] x.extent x.size x.f.time true []) blk pt li bi) ∧ Below w.heap.size w w' :=
  (isoVolume_any vol x blk pt li bi w hv h1 h2 h3 h4 h5 h6 h7 h8).mono fun e w' h => ⟨_, h⟩
theorem dirOf_num {xs ys : List XNode} {ds : List Nat} (hn : Num xs ys ds) (d : Nat) : dirOf (XNode.ns ys) d = dirOf (XNode.ns xs) d := by
  by_cases hdx : d < xs.length
  · have hdy : d < ys.length := by rw [hn.1]; exact hdx
    show (nodeAt (XNode.ns ys) d).f.dir = (nodeAt (XNode.ns xs) d).f.dir
    rw [nodeAt_ns ys d hdy, nodeAt_ns xs d hdx, hn.2 d hdx hdy]
  · have h1 : (XNode.ns ys).length ≤ d := by simp [XNode.ns, hn.1]; omega
    have h2 : (XNode.ns xs).length ≤ d := by simp [XNode.ns]; omega
    simp only [dirOf, List.getD_eq_getElem?_getD, List.getElem?_eq_none h1, List.getElem?_eq_none h2]
theorem order_ok {fs : List File} {ns : List Node} {xs ys : List XNode} {ds : List Nat} (h : addFiles false [rootNode] fs = some ns) (hs : Shuf ns (XNode.ns xs)) (hn : Num xs ys ds) (hq : BQ (XNode.ns xs) ds ds.length 0) :
    (ds ++ filesTo (XNode.ns ys) xs.length).Nodup ∧ ∀ i, i ∈ ds ++ filesTo (XNode.ns ys) xs.length ↔ i < xs.length := by
  have hF := hs.fam (addFiles_fam h (Fam.start false))
  have hxl : (XNode.ns xs).length = xs.length := by simp [XNode.ns]
  have hdir : ∀ d ∈ ds, dirOf (XNode.ns xs) d = true := by
    intro d hd
    rcases hq.dir d hd with rfl | h
    · show (nodeAt (XNode.ns xs) 0).f.dir = true
      rw [hF.root.1]; rfl
    · exact h
  refine ⟨?_, fun i => ?_⟩
  · rw [List.nodup_append]
    refine ⟨hq.nodup, (List.nodup_range).filter _, fun a ha b hb e => ?_⟩
    subst e
    unfold filesTo at hb
    rw [List.mem_filter, dirOf_num hn, hdir a ha] at hb
    simp at hb
  · rw [List.mem_append]
    unfold filesTo
    rw [List.mem_filter, List.mem_range, dirOf_num hn]
    constructor
    · rintro (h1 | h1)
      · have := hq.lt i h1; omega
      · exact h1.1
    · intro hi
      cases hd : dirOf (XNode.ns xs) i with
      | true => exact .inl (hq.all hF (i + 1) i (Nat.lt_succ_self i) (by omega) hd)
      | false => exact .inr ⟨hi, rfl⟩
theorem dirs_of {fs : List File} {ns : List Node} {xs ys : List XNode} {ds : List Nat} (h : addFiles false [rootNode] fs = some ns) (hs : Shuf ns (XNode.ns xs)) (hn : Num xs ys ds) (hq : BQ (XNode.ns xs) ds ds.length 0) : ∀ d ∈ ds, dirOf (XNode.ns ys) d = true := by
  intro d hd
  have hF := hs.fam (addFiles_fam h (Fam.start false))
  have hdl := hq.lt d hd
  have hdx : d < xs.length := by simpa [XNode.ns] using hdl
  have hdy : d < ys.length := by rw [hn.1]; exact hdx
  have e : dirOf (XNode.ns ys) d = dirOf (XNode.ns xs) d := by
    show (nodeAt (XNode.ns ys) d).f.dir = (nodeAt (XNode.ns xs) d).f.dir
    rw [nodeAt_ns ys d hdy, nodeAt_ns xs d hdx, hn.2 d hdx hdy]
  rw [e]
  rcases hq.dir d hd with rfl | h
  · show (nodeAt (XNode.ns xs) 0).f.dir = true
    rw [hF.root.1]; rfl
  · exact h

set_option maxRecDepth 100000 in
set_option maxHeartbeats 8000000 in
theorem isoImage_any (cap : Nat) (A : Option Addr) (fs : List File) (ns : List Node) (vol : ByteArray) (w : World) (hl : fs.length ≤ 60) (hns : fs.length ≤ cap) (hA : FilesR w w.heap.size A fs) (hf : ∀ f ∈ fs, FileOk f) (hv : vol.size ≤ 32) (hm : addFiles false [rootNode] fs = some ns) :
    Calls Tryz.prog 11 #[.slice A fs.length cap, .string vol, .bool false] w fun e w' => ∃ O ks ds next img, e = .returned (.tuple #[.slice (some ⟨O, 0, none⟩) (next * 2048) (next * 2048), .bool true]) ∧ Own w' w.heap.size (.slice (some ⟨O, 0, none⟩) (next * 2048) (next * 2048)) img ∧ Below w.heap.size w w' ∧ Laid ns vol.data.toList ks ds next img := by
  have hT0 := addFiles_tree hm Tree.root
  have HA := Lib.hid hA; have HF := Lib.hid hf; have HM := Lib.hid hm
  have hm' := hm
  clear hA hf hm
  go_enter Tryz.func11, Tryz.ntmps11
  go_wp2_with (first
    | (go_at_call 32; refine (blocksOf_any L _ (by omega)).mono ?_; rintro e w' ⟨rfl, rfl⟩)
    | (go_at_call 31; refine (hI2.paths true hdl (by omega)).mono ?_; rintro e w3 ⟨A3, c3, L, rfl, hL, hO3, hb3⟩; have hI3 := hI2.later hb3; have hLb : L ≤ 62000 := (by have := paths_le hI2.ok true ds hdl; have := hL.out; omega); have hbL : blocks L ≤ 31 := (by unfold blocks; omega))
    | (go_at_call 30; refine (isoDirs_any w.heap.size g c xs w1 hN1 (hSh.tree hT0) (by omega) hb1.size).mono ?_; rintro e w2 ⟨A2, co, ds, ys, rfl, hD⟩; have hdl0 := hD.q.le; have hdn : ds.length ≤ xs.length := (by simpa [XNode.ns] using hdl0); have hI2 : IS w w2 g c xs.length w1.heap.size co A2 ys ds := ⟨hD.nodes, okxs_num hOk hD.num (by omega), hD.row, hb1.grown hD.gb hb1.size (by intro k hk; cases hk; exact (hN1.len_le rfl).2.1)⟩; have hdl : ∀ d ∈ ds, d < ys.length := (fun d hd => by rw [hD.num.1]; have := hD.q.lt d hd; simpa [XNode.ns] using this))
    | (go_at_call 27; refine (isoNodes_any cap A fs false w (by omega) hns HA.out (fun f hf => by have := (HF.out f hf).path; omega)).mono ?_; rintro e w1 ⟨hb1, -, hsome⟩; obtain ⟨g, c, xs, rfl, hN1, hSh⟩ := hsome ns HM.out; have hOk := okxs_of hl HF.out HM.out hSh; have hxl : xs.length ≤ 61 := (by have h1 := (addFiles_fam HM.out (Fam.start false)).len; have h2 := hSh.1; simp [XNode.ns] at h1 h2; omega)))
  have hyl : ys.length = xs.length := hD.num.1
  have hpos : 0 < xs.length := by have := (hSh.tree hT0).pos; simpa [XNode.ns] using this
  have hdirs : ∀ d ∈ ds, dirOf (XNode.ns ys) d = true := dirs_of hm' hSh hD.num hD.q
  have HD := Lib.hid hdirs
  have HL := Lib.hid hL
  clear hO3 hb3 hdirs hL
  go_loopw [13, 17, 80] (fun nv _ cv wr => ∃ (t nx : Nat) (zs : List XNode), t ≤ ds.length ∧ cv = .int .i64 t ∧ nv = .int .u32 nx ∧ IS w wr g c xs.length w1.heap.size co A2 zs ds ∧ nx ≤ 18 + blocks L + blocks L + t * 225 ∧ Hid (ext (XNode.ns ys) (18 + blocks L + blocks L) (ds.take t) = (XNode.ns zs, nx))) (fun _ _ cv _ => ds.length - (intOf cv).toNat)
  case atStart => exact ⟨0, _, ys, by omega, rfl, by simp, hI3, Nat.le_add_right _ _, rfl⟩
  case round =>
    clear hI3
    obtain ⟨t, nx, zs, ht, rfl, rfl, hI, hnx, hE⟩ := hrel
    by_cases hlt : t < ds.length
    · obtain ⟨go, rfl, hgo⟩ := hI.dirs.cell t hlt
      obtain ⟨d, hdd⟩ : ∃ d, ds.getD t 0 = d := ⟨_, rfl⟩
      rw [hdd] at hgo
      have hdm : d ∈ ds := by rw [← hdd]; exact getD_mem hlt
      have hdz : d < zs.length := by rw [hI.ok.1]; have := hdl d hdm; omega
      have hdx : d < xs.length := by rw [← hI.ok.1]; exact hdz
      have hLk : Like (XNode.ns ys) (XNode.ns zs) := by have := ext_like (XNode.ns ys) (18 + blocks L + blocks L) (ds.take t); rw [hE.out] at this; exact this
      have hcl : clen (XNode.ns zs) d = (dirBytes (XNode.ns zs) d).length := by
        unfold clen; rw [if_pos]; rw [hLk.dir]; exact HD.out d hdm
      have hcb := clen_le hI.ok d hdz
      have hcb2 := blocks_clen hI.ok d hdz
      have HCL := Lib.hid hcl; have HDD := Lib.hid hdd
      have HI := Lib.hid hI
      have htl : t ≤ 61 := by omega
      clear hcl hdd hI hLk
      go_wp2_with (first
        | (go_at_call 32; refine (blocksOf_any q _ (by omega)).mono ?_; rintro e w' ⟨rfl, rfl⟩)
        | (go_at_call 33; refine (HI.out.records d 1 hdz (by omega)).mono ?_; rintro e w3 ⟨A3, c3, q, rfl, hq, hO3, hb3⟩; have hq1 : q ≤ 460000 := (by rw [HCL.out, hq.out] at hcb; exact hcb); have hq2 : blocks q ≤ 225 := (by rw [HCL.out, hq.out] at hcb2; exact hcb2); have hI3 := HI.out.later hb3; have hc1 := hI3.cell d hdz 11 _ rfl; have hf1 := hI3.frozen (d * 18 + 11); obtain ⟨hIs, hc2, hf2⟩ := hI3.store d hdz nx q (by omega) (by omega); have hc3 := hIs.cell d (by rw [List.length_set]; exact hdz) 12 (.int .u32 q) (by simp); have HIS := Lib.hid hIs; clear hIs hI3))
      go_roundw
      case rel =>
        refine ⟨t + 1, nx + blocks q, _, hlt, by simp, by simp, HIS.out, by omega, ?_⟩
        unfold Hid
        rw [take_snoc hlt, HDD.out, ext_snoc hE.out, ns_set zs d hdz, HCL.out, hq.out]
      case measure => simp [intOf]; omega
    · have hte : t = ds.length := by omega
      subst hte
      rw [List.take_length] at hE
      have HI := Lib.hid hI
      clear hI
      go_wp2_with (go_at_call 32; refine (blocksOf_any 0 _ (by omega)).mono ?_; rintro e w' ⟨rfl, rfl⟩; rw [show ((blocks 0 : Nat) : Int) = 0 from rfl])
      have hnx0 : nx ≤ 18 + blocks L + blocks L + 61 * 225 := by omega
      clear hnx hlt ht
      go_loopw [13, 19, 117] (fun nv _ cv wr => ∃ (t nx' : Nat) (zs : List XNode), t ≤ xs.length ∧ cv = .int .i64 t ∧ nv = .int .u32 nx' ∧ IS w wr g c xs.length w1.heap.size co A2 zs ds ∧ nx' ≤ nx + t * 225 ∧ Hid (ext (XNode.ns ys) (18 + blocks L + blocks L) (ds ++ filesTo (XNode.ns ys) t) = (XNode.ns zs, nx'))) (fun _ _ cv _ => xs.length - (intOf cv).toNat)
      case atStart => exact ⟨0, nx, zs, by omega, rfl, by simp, HI.out, by omega, by unfold Hid; rw [show filesTo (XNode.ns ys) 0 = [] from rfl, List.append_nil]; exact hE.out⟩
      case round =>
        clear HI hE
        obtain ⟨t, nx', zs, ht, rfl, rfl, hI, hnx, hE⟩ := hrel
        by_cases hlt : t < xs.length
        · have hdz : t < zs.length := by rw [hI.ok.1]; exact hlt
          have hLk : Like (XNode.ns ys) (XNode.ns zs) := by have := ext_like (XNode.ns ys) (18 + blocks L + blocks L) (ds ++ filesTo (XNode.ns ys) t); rw [hE.out] at this; exact this
          have hdr : dirOf (XNode.ns ys) t = zs[t].f.dir := by
            rw [← hLk.dir]; show (nodeAt (XNode.ns zs) t).f.dir = _; rw [nodeAt_ns zs t hdz]
          have ct1 := hI.cell t hdz 1 _ rfl
          have ct2 := hI.cell t hdz 2 _ rfl
          have HDR := Lib.hid hdr
          cases hdir : zs[t].f.dir with
          | true =>
            rw [hdir] at ct1
            have HI := Lib.hid hI; have HDI := Lib.hid hdir
            clear hI hLk hdr hdir
            go_wp2_with fail
            go_roundw
            case rel => exact ⟨t + 1, nx', zs, hlt, by simp, rfl, HI.out, by omega, by unfold Hid; rw [filesTo_dir _ _ (by rw [HDR.out]; exact HDI.out)]; exact hE.out⟩
            case measure => simp [intOf]; omega
          | false =>
            rw [hdir] at ct1
            have hcl : clen (XNode.ns zs) t = zs[t].f.data.size := by
              unfold clen; rw [if_neg]
              · rw [nodeAt_ns zs t hdz]
              · rw [hLk.dir, hdr, hdir]; simp
            have hqs := (hI.ok.2 _ (List.getElem_mem hdz)).data
            have hcb2 := blocks_clen hI.ok t hdz
            rw [hcl] at hcb2
            have hc1 := hI.cell t hdz 11 _ rfl
            have hf1 := hI.frozen (t * 18 + 11)
            obtain ⟨hIs, hc2, hf2⟩ := hI.store t hdz nx' zs[t].f.data.size (by omega) (by omega)
            have hc3 := hIs.cell t (by rw [List.length_set]; exact hdz) 2 (.string zs[t].f.data) (by simp)
            have HIS := Lib.hid hIs; have HDI := Lib.hid hdir; have HCL := Lib.hid hcl
            clear hI hLk hdr hdir hIs hcl
            go_wp2_with (go_at_call 32; refine (blocksOf_any zs[t].f.data.size _ (by omega)).mono ?_; rintro e w' ⟨rfl, rfl⟩)
            go_roundw
            case rel =>
              refine ⟨t + 1, nx' + blocks zs[t].f.data.size, _, hlt, by simp, by simp, HIS.out, by omega, ?_⟩
              unfold Hid
              rw [filesTo_file _ _ (by rw [HDR.out]; exact HDI.out), ← List.append_assoc, ext_snoc hE.out, ns_set zs t hdz, HCL.out]
            case measure => simp [intOf]; omega
        · have hte : t = xs.length := by omega
          subst hte
          have HI := Lib.hid hI
          clear hI
          have hlo : 18 + blocks L + blocks L ≤ nx' := by have := ext_le (XNode.ns ys) (18 + blocks L + blocks L) (ds ++ filesTo (XNode.ns ys) xs.length); rw [hE.out] at this; exact this
          have hLb2 := blocks_le L
          have hz0 : 0 < zs.length := by rw [HI.out.ok.1]; exact hpos
          have ok0 := HI.out.ok.2 _ (List.getElem_mem hz0)
          have hnx2 : nx' ≤ 40000 := by omega
          obtain ⟨N, hN⟩ : ∃ N, nx' * 2048 = N := ⟨_, rfl⟩
          have hLk : Like (XNode.ns ys) (XNode.ns zs) := by have := ext_like (XNode.ns ys) (18 + blocks L + blocks L) (ds ++ filesTo (XNode.ns ys) xs.length); rw [hE.out] at this; exact this
          have hP1 := Lib.hid ((pathsL_like hLk true true ds).trans HL.out)
          have hP2 := Lib.hid ((pathsL_like hLk false true ds).trans HL.out)
          have hdz : ∀ d ∈ ds, d < zs.length := fun d hd => by rw [HI.out.ok.1, ← hyl]; exact hdl d hd
          have HLK := Lib.hid hLk
          clear hLk
          have HNN := Lib.hid hN
          obtain ⟨b18, hb18⟩ : ∃ b, 18 + blocks L = b := ⟨_, rfl⟩
          have hb18i : (18 + (blocks L : Int)) = (b18 : Int) := by omega
          rw [hb18i]
          have HB := Lib.hid hb18
          have hb18a : b18 < 4294967296 := by omega
          have hb18f : b18 * 2048 + L ≤ N := by omega
          clear hb18 hb18i
          have x0 := ok0.ext; have x1 := ok0.size; have x2 := ok0.t0; have x3 := ok0.t1
          clear hnx hnx0 ht hlt hN
          have kc := fun (w : World) (C : Array Value) (n c : Nat) => Lib.run_convert_bytes_const (P := Tryz.prog) w 27 5 C n c Tryz.underlying27 under5
          go_wp2_with (first
            | (go_at_call 34; refine (HM7.lay _ L b18 _ _ hP2.out hO10.rd hb18f (by have := HNN.out; omega) hb18a).mono ?_; rintro e w11 ⟨rfl, img4, hi4, HM8, hg11⟩)
            | (go_at_call 31; refine (HM6.is.paths false hdz (by omega)).mono ?_; rintro e w10 ⟨A10, c10, q10, rfl, hq10, hO10, hb10⟩; have hqe10 : L = q10 := (by rw [← hq10.out]; exact hP2.out.symm); subst hqe10; have HM7 := HM6.later hb10)
            | (go_at_call 34; refine (HM5.lay _ L 18 _ _ hP1.out hO8.rd (by have := HNN.out; omega) (by have := HNN.out; omega) (by decide)).mono ?_; rintro e w9 ⟨rfl, img3, hi3, HM6, hg9⟩)
            | (go_at_call 31; refine (HM3.is.paths true hdz (by omega)).mono ?_; rintro e w8 ⟨A8, c8, q8, rfl, hq8, hO8, hb8⟩; have hqe8 : L = q8 := (by rw [← hq8.out]; exact hP1.out.symm); subst hqe8; have HM5 := HM3.later hb8)
            | (go_at_call 34; refine ((HM2.later (w' := w5.alloc (.cells (BVs term7).toArray 5 (7, 8))) ((Below.refl _ _).alloc (Nat.le_refl _) _)).lay _ 7 17 _ term7 rfl (rd_mark w5 term7 (7, 8)) (by have := HNN.out; omega) (by have := HNN.out; omega) (by decide)).mono ?_; rintro e w7 ⟨rfl, img2, hi2, HM3, hg7⟩)
            | (go_at_call 34; refine (HM1.lay _ 2048 16 _ _ (pvdB_length _ _ _ _ _ _ (by rw [Array.length_toList]; exact hv) (by rw [isoRec_length]; rfl)) hO4.rd (by have := HNN.out; omega) (by have := HNN.out; omega) (by decide)).mono ?_; rintro e w5 ⟨rfl, img1, hi1, HM2, hg5⟩)
            | (go_at_call 35; refine (isoVolume_b vol zs[0] nx' L 18 b18 _ hv (by omega) (by omega) (by decide) hb18a (by omega) (by omega) x2 x3).mono ?_; rintro e w4 ⟨b4, rfl, hO4, hb4⟩; have HM1 := HM0.later hb4)
            | (refine atLoad 64 ?_; refine wpList_loadNode rfl _ rfl (g := g) (i := 0) (ns := zs) rfl HM0.is.nodes.cells hz0 ?_)
            | (at_make; refine asList rfl fun KK hKK => ?_; refine go_makeN (w0 := wr) (.tmp 157) (.tmp 157) rfl wr.heap.size _ _ _ _ N N rfl rfl (by have := HNN.out; omega) (by have := HNN.out; omega) (Nat.le_refl _) (by have := HNN.out; omega) (Below.refl _ _) (Nat.le_refl _) ?_; intro wm Lm hLm hlm hOm hbm hsm; have HM0 := IM.start HI.out hlm.out hOm hbm hsm; refine hKK _ _ ?_; clear hKK KK))
          have hord := order_ok hm' hSh hD.num hD.q
          have HFIT : ∀ (t : Nat) (h : t < zs.length), zs[t].extent * 2048 + clen (XNode.ns zs) t ≤ N := by
            intro t h
            have h2 : t < xs.length := by rw [← HI.out.ok.1]; exact h
            have hx := ext_at (XNode.ns ys) (18 + blocks L + blocks L) (ds ++ filesTo (XNode.ns ys) xs.length) hord.1 (fun i hi => by have := (hord.2 i).1 hi; simpa [XNode.ns, hyl] using this) t ((hord.2 t).2 h2)
            rw [hE.out] at hx
            have h3 := hx.2.2
            rw [nodeAt_ns zs t h] at h3
            rw [HLK.out.clen]
            have h4 := blocks_le (clen (XNode.ns ys) t)
            have h5 := HNN.out
            have h6 : (zs[t].extent + blocks (clen (XNode.ns ys) t)) * 2048 ≤ nx' * 2048 := Nat.mul_le_mul_right _ h3
            omega
          obtain ⟨D4, hD4⟩ : ∃ D : List (Nat × List UInt8), D = [(16, pvdB vol.data.toList (isoRec [0] zs[0].extent zs[0].size zs[0].f.time true []) nx' L 18 b18), (17, term7), (18, pathsL (XNode.ns zs) true ds), (b18, pathsL (XNode.ns zs) false ds)] := ⟨_, rfl⟩
          have HD4 := Lib.hid hD4
          have hI4 : img4 = layAll (zeros N) (D4 ++ nodeLays (XNode.ns zs) 0) := by
            rw [hD4, hi4.out, hi3.out, hi2.out, hi1.out, hLm.out]; rfl
          have HI4 := Lib.hid hI4
          obtain ⟨O, hOe⟩ : ∃ O, O = wr.heap.size := ⟨_, rfl⟩
          rw [← hOe] at HM8 ⊢
          clear hI4 hD4 HM0 HM1 HM2 HM3 HM5 HM6 HM7 hg5 hg7 hg9 hg11 hb4 hb8 hb10 hO4 hO8 hO10 hi1 hi2 hi3 hi4 hLm hOm hbm hsm hlm kc hOe hq8 hq10
          go_loopw [22, 23, 190] (fun _ _ cv wr => ∃ (t : Nat) (img : List UInt8), t ≤ xs.length ∧ cv = .int .i64 t ∧ IM w wr g c xs.length w1.heap.size co A2 zs ds (O + 1) O N img ∧ Hid (img = layAll (zeros N) (D4 ++ nodeLays (XNode.ns zs) t))) (fun _ _ cv _ => xs.length - (intOf cv).toNat)
          case atStart => exact ⟨0, img4, by omega, rfl, HM8, HI4⟩
          case round =>
            clear HM8 HI4
            obtain ⟨t, img, ht, rfl, hM, hIm⟩ := hrel
            by_cases hlt : t < xs.length
            · have htz : t < zs.length := by rw [HI.out.ok.1]; exact hlt
              have okt := HI.out.ok.2 _ (List.getElem_mem htz)
              cases hdir : zs[t].f.dir with
              | true =>
                have hct : content (XNode.ns zs) t = dirBytes (XNode.ns zs) t := by
                  unfold content; rw [if_pos]; show (nodeAt (XNode.ns zs) t).f.dir = true; rw [nodeAt_ns zs t htz]; exact hdir
                have hcl : clen (XNode.ns zs) t = (dirBytes (XNode.ns zs) t).length := by rw [← content_length, hct]
                go_wp2_with (first
                  | (refine atLoad 64 ?_; refine wpList_loadNode rfl _ rfl rfl hM.is.nodes.cells htz ?_)
                  | (refine atStore 64 ?_; refine wpList_storeNew rfl 64 _ _ rfl _ _ _ _ rfl rfl (by exact info64) (by rfl) (by rfl) ?_))
                have hMr := Lib.hid hM
                have HCLt := Lib.hid hcl
                clear hcl
                have KB : ∀ (cs : List Value), cs[11]? = some (.int .u32 zs[t].extent) → ∀ W : World, Below (wr.heap.size + 1) (wr.alloc (.cells cs.toArray 64)) W → W.cell? ⟨wr.heap.size, 11, none⟩ = some (.int .u32 zs[t].extent) := by
                  intro cs hcs W hW
                  rw [hW.cell (p := ⟨wr.heap.size, 11, none⟩) (Nat.lt_succ_self _)]
                  have := rangeAt_alloc wr cs 64 11 _ hcs
                  rwa [Nat.zero_add] at this
                have KB' := Lib.hid KB
                have hOz : O < wr.heap.size := Nat.lt_trans hM.lt.2 hM.vlt
                clear KB hM
                refine wp_region_held_drew (S := fun W => W.cell? ⟨wr.heap.size, 11, none⟩ = some (.int .u32 zs[t].extent)) (by kernel_rfl) (KB'.out _ (by rfl) _ (Below.refl _ _).drew) (fun hHeld => ?_)
                refine wpAnyH_take (i := 0) (v := .func (.func 34) #[] #[.pointer (some ⟨O + 1, 0, none⟩)]) (rfl : _ = some (Oper.mk _ _ _ _ _ _)) (by kernel_rfl) (by kernel_rfl) (by kernel_rfl) (fun _ _ _ h => h) (Or.inl ⟨by rfl, fun W hW => ?_⟩) (by assumption) ?_
                · first | (go_simp; done) | (try dsimp only at hW; go_simp; done) | (try dsimp only at hW; simp [execOp, *]; done)
                try simp only [Act.put, List.setIfInBounds_toArray, List.set_cons_zero, List.set_cons_succ]
                refine wpAnyH_take (i := 1) (v := .pointer (some ⟨wr.heap.size, 11, none⟩)) (rfl : _ = some (Oper.mk _ _ _ _ _ _)) (by kernel_rfl) (by kernel_rfl) (by kernel_rfl) (fun _ _ _ h => h) (Or.inl ⟨by rfl, fun W hW => ?_⟩) (by assumption) ?_
                · first | (go_simp; done) | (try dsimp only at hW; go_simp; done) | (try dsimp only at hW; simp [execOp, *]; done)
                try simp only [Act.put, List.setIfInBounds_toArray, List.set_cons_zero, List.set_cons_succ]
                refine wpAnyH_take (i := 2) (v := .int .u32 zs[t].extent) (rfl : _ = some (Oper.mk _ _ _ _ _ _)) (by kernel_rfl) (by kernel_rfl) (by kernel_rfl) (fun _ _ _ h => h) (Or.inl ⟨by rfl, fun W hW => ?_⟩) (by assumption) ?_
                · first | (go_simp; done) | (try dsimp only at hW; go_simp; done) | (try dsimp only at hW; simp [execOp, *]; done)
                try simp only [Act.put, List.setIfInBounds_toArray, List.set_cons_zero, List.set_cons_succ]
                refine wpAnyH_take (i := 3) (v := .slice (some ⟨g, 0, none⟩) xs.length c) (rfl : _ = some (Oper.mk _ _ _ _ _ _)) (by kernel_rfl) (by kernel_rfl) (by kernel_rfl) (fun _ _ _ h => h) (Or.inl ⟨by rfl, fun W hW => ?_⟩) (by assumption) ?_
                · first | (go_simp; done) | (try dsimp only at hW; go_simp; done) | (try dsimp only at hW; simp [execOp, *]; done)
                try simp only [Act.put, List.setIfInBounds_toArray, List.set_cons_zero, List.set_cons_succ]
                refine wpAnyH_take (i := 4) (v := .int .i64 t) (rfl : _ = some (Oper.mk _ _ _ _ _ _)) (by kernel_rfl) (by kernel_rfl) (by kernel_rfl) (fun _ _ _ h => h) (Or.inl ⟨by rfl, fun W hW => ?_⟩) (by assumption) ?_
                · first | (go_simp; done) | (try dsimp only at hW; go_simp; done) | (try dsimp only at hW; simp [execOp, *]; done)
                try simp only [Act.put, List.setIfInBounds_toArray, List.set_cons_zero, List.set_cons_succ]
                refine wpAnyH_take (i := 5) (v := .bool false) (rfl : _ = some (Oper.mk _ _ _ _ _ _)) (by kernel_rfl) (by kernel_rfl) (by kernel_rfl) (fun _ _ _ h => h) (Or.inl ⟨by rfl, fun W hW => ?_⟩) (by assumption) ?_
                · first | (go_simp; done) | (try dsimp only at hW; go_simp; done) | (try dsimp only at hW; simp [execOp, *]; done)
                try simp only [Act.put, List.setIfInBounds_toArray, List.set_cons_zero, List.set_cons_succ]
                refine wpAnyH_take (i := 6) (v := .int .u32 nx) (rfl : _ = some (Oper.mk _ _ _ _ _ _)) (by kernel_rfl) (by kernel_rfl) (by kernel_rfl) (fun _ _ _ h => h) (Or.inl ⟨by rfl, fun W hW => ?_⟩) (by assumption) ?_
                · first | (go_simp; done) | (try dsimp only at hW; go_simp; done) | (try dsimp only at hW; simp [execOp, *]; done)
                try simp only [Act.put, List.setIfInBounds_toArray, List.set_cons_zero, List.set_cons_succ]
                refine wpAnyH_ready (rs := [7]) (by kernel_rfl) (by simp) ?_
                refine AllReadyH.cons (rfl : _ = some (Oper.mk _ _ _ _ _ _)) (fun K hKK => ?_) AllReadyH.nil
                rw [if_pos (by rfl)]
                go_simp
                refine (hMr.out.recordsAt ?hW t nx htz (by omega)).mono ?_
                case hW => exact ((Below.refl _ _).alloc (Nat.le_refl _) _).drew
                rintro e u1 ⟨A1, c1, q1, rfl, hq1, hO1, hb1, HM1⟩
                have hlt1 := World.block_lt_of_cell? _ _ hHeld
                have kc1 := (hb1.cell (p := ⟨wr.heap.size, 11, none⟩) hlt1).trans hHeld
                have hqq := Lib.hid (show q1 = clen (XNode.ns zs) t by rw [← hq1.out, HCLt.out])
                have hfit := HFIT t htz
                go_wp2_with fail
                refine hKK.out _ _ (by exact kc1) (fun hHeld' => ?_)
                clear hKK K hHeld
                have hHeld := hHeld'
                clear hHeld'
                try simp only [Act.put, List.setIfInBounds_toArray, List.set_cons_zero, List.set_cons_succ]
                refine wpAnyH_ready (rs := [8]) (by kernel_rfl) (by simp) ?_
                refine AllReadyH.cons (rfl : _ = some (Oper.mk _ _ _ _ _ _)) (fun K hKK => ?_) AllReadyH.nil
                rw [if_pos (by rfl)]
                go_simp
                refine (HM1.lay _ q1 zs[t].extent _ _ hq1.out hO1.rd (by rw [hqq.out]; exact hfit) (by have := HNN.out; omega) (by have := okt.ext; omega)).mono ?_
                rintro e u2 ⟨rfl, img', hi', HM2, hg2⟩
                have hlt2 := World.block_lt_of_cell? _ _ kc1
                have kc2 := (World.cell?_of_block (w := u1) (a := ⟨wr.heap.size, 11, none⟩) (hg2.block _ hlt2 (by simp; omega))).trans kc1
                go_wp2_with fail
                refine hKK.out _ _ (by exact kc2) (fun hHeld' => ?_)
                clear hKK K hHeld
                have hHeld := hHeld'
                clear hHeld'
                try simp only [Act.put, List.setIfInBounds_toArray, List.set_cons_zero, List.set_cons_succ]
                refine wpAnyH_done (by kernel_rfl) ?_ _
                go_wp2_with fail
                go_roundw
                case rel => exact ⟨t + 1, img', hlt, by simp, HM2, by unfold Hid; rw [nodeLays_succ, ← List.append_assoc, layAll_snoc, ← hIm.out, hi'.out, nodeAt_ns zs t htz, hct]⟩
                case measure => simp [intOf]; omega
              | false =>
                have hct : content (XNode.ns zs) t = zs[t].f.data.data.toList := by
                  unfold content; rw [if_neg]
                  · rw [nodeAt_ns zs t htz]
                  · show ¬ (nodeAt (XNode.ns zs) t).f.dir = true; rw [nodeAt_ns zs t htz, hdir]; simp
                have hdl2 : zs[t].f.data.data.toList.length = zs[t].f.data.size := by rw [Array.length_toList]; rfl
                have hcl : clen (XNode.ns zs) t = zs[t].f.data.size := by rw [← content_length, hct, hdl2]
                have hfit := HFIT t htz
                rw [hcl] at hfit
                have hds := okt.data
                have hex := okt.ext
                have HDL := Lib.hid hdl2
                clear hdl2
                go_wp2_with (first
                  | (go_at_call 34; refine (HM1.lay _ zs[t].f.data.size zs[t].extent _ _ HDL.out hO1.rd hfit (by have := HNN.out; omega) (by omega)).mono ?_; rintro e u2 ⟨rfl, img', hi', HM2, hg2⟩)
                  | (refine atConvert 9 27 ?_; refine asList rfl fun KK hKK => ?_; refine wp_convFb (.tmp 212) rfl zs[t].f.data zs[t].f.data.size rfl (by omega) rfl ?_; intro b1 c1 u1 hO1 hb1; refine hKK _ _ ?_; clear hKK KK; have HM1 := IM.later (hM.later ((Below.refl _ _).alloc (Nat.le_refl _) _)) hb1)
                  | (refine atLoad 64 ?_; refine wpList_loadNode rfl _ rfl rfl hM.is.nodes.cells htz ?_)
                  | (refine atStore 64 ?_; refine wpList_storeNew rfl 64 _ _ rfl _ _ _ _ rfl rfl (by exact info64) (by rfl) (by rfl) ?_))
                go_roundw
                case rel => exact ⟨t + 1, img', hlt, by simp, HM2, by unfold Hid; rw [nodeLays_succ, ← List.append_assoc, layAll_snoc, ← hIm.out, hi'.out, nodeAt_ns zs t htz, hct]⟩
                case measure => simp [intOf]; omega
            · have hte : t = xs.length := by omega
              subst hte
              go_wp2_with fail
              clear hlt ht
              have HIM := Lib.hid hIm
              clear hIm
              go_loopw [24, 25, 218] (fun _ _ cv wr => ∃ (t : Nat), t ≤ xs.length ∧ cv = .int .i64 t ∧ IM w wr g c xs.length w1.heap.size co A2 zs ds (O + 1) O N img) (fun _ _ cv _ => xs.length - (intOf cv).toNat)
              case atStart => exact ⟨0, by omega, rfl, hM⟩
              case round =>
                clear hM
                obtain ⟨t, ht, rfl, hM⟩ := hrel
                by_cases hlt : t < xs.length
                · have htz : t < zs.length := by rw [HI.out.ok.1]; exact hlt
                  have hm0 : zs[t].more.length = 0 := by rw [(HI.out.ok.2 _ (List.getElem_mem htz)).more]; rfl
                  go_wp2_with (first
                    | (refine atLoad 64 ?_; refine wpList_loadNode rfl _ rfl rfl hM.is.nodes.cells htz ?_)
                    | (refine atStore 64 ?_; refine wpList_storeNew rfl 64 _ _ rfl _ _ _ _ rfl rfl (by exact info64) (by rfl) (by rfl) ?_))
                  all_goals
                    go_roundw
                    case rel => exact ⟨t + 1, hlt, by first | (simp; done) | (simp; omega), hM.later ((Below.refl _ _).alloc (Nat.le_refl _) _)⟩
                    case measure => simp [intOf]; omega
                · have hcV := hM.cell
                  go_wp2_with fail
                  go_ret2
                  have e0 : nodeAt (XNode.ns zs) 0 = zs[0].toNode := nodeAt_ns zs 0 hz0
                  have hNe := HNN.out
                  subst hNe
                  refine ⟨O, XNode.ns zs, ds, nx', img, rfl, hM.own.lower hM.lt.1, hM.is.below, xs, ys, L, hSh, hOk, hD.num, hD.q, HL.out.symm, hE.out, ?_⟩
                  rw [HIM.out, HD4.out]
                  unfold imageOf laysOf
                  rw [hP1.out, HB.out, e0, show (XNode.ns zs).length = xs.length by simp [XNode.ns]; exact HI.out.ok.1]
                  rfl
end Go.Proofs.YtilgpaeeleknhaaGreatDoor
end
