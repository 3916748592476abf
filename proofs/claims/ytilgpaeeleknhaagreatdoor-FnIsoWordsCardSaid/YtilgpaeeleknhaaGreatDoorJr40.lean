/- A part of the proof of laws.FnIsoRock (see the last text). -/
import Derived.Test.YtilgpaeeleknhaaGreatDoorJr20
import Derived.Test.YtilgpaeeleknhaaGreatDoorJr35
import Derived.Test.YtilgpaeeleknhaaGreatDoorJr17
set_option linter.unusedSimpArgs false
set_option linter.unusedVariables false
set_option maxRecDepth 1000000
set_option maxHeartbeats 8000000
namespace Go.Proofs.YtilgpaeeleknhaaGreatDoor
open Go Go.RowKit
theorem addFiles_all {rock : Bool} {l : List File} (Q : Node -> Prop) (hk : ∀ n m, Q n -> Q { n with kids := m }) {ns ms : List Node} (hnew : ∀ f ∈ l, ∀ k p v, Q (newNode f (idOf rock k (cutLast f.p).2 f.dir) p v)) (h : addFiles rock ns l = some ms) (hs : ∀ n ∈ ns, Q n) : ∀ n ∈ ms, Q n := by
 induction l generalizing ns with
 | nil => cases h; exact hs
 | cons f l ih =>
   simp only [addFiles] at h
   cases hf : stepFile rock ns f with
   | none => rw [hf] at h; cases h
   | some ms' =>
     rw [hf] at h
     refine ih (fun g hg => hnew g (by simp [hg])) h ?_
     unfold stepFile at hf
     simp only at hf
     split at hf
     case isFalse => cases hf
     case isTrue hp =>
      split at hf
      . cases hf
      . cases hf
        intro n hn
        rw [List.mem_append, List.mem_singleton] at hn
        rcases hn with hn | rfl
        . rcases List.mem_or_eq_of_mem_set hn with hn | rfl
          . exact hs n hn
          . exact hk _ _ (hs _ (List.getElem_mem hp))
        . exact hnew f (by simp) _ _ _
structure FileOk (f : File) : Prop where
 path : f.path.size <= 900
 data : f.data.size <= 60000
 t0 : -9223372036854775808 <= f.time
 t1 : f.time <= 9223372036854775807
structure NodeOk (n : Node) : Prop where
 ext : n.extent = 0
 size : n.size = 0
 num : n.number = 0
 id : n.id.size <= 1000
 data : n.f.data.size <= 60000
 t0 : -9223372036854775808 <= n.f.time
 t1 : n.f.time <= 9223372036854775807
 su : n.su = []
 more : n.more = []
 place : n.place = 0
theorem nodes_ok {rock : Bool} {fs : List File} {ns : List Node} (hf : ∀ f ∈ fs, FileOk f) (h : addFiles rock [rootNode] fs = some ns) : ∀ n ∈ ns, NodeOk n := by
 refine addFiles_all NodeOk (fun n m h => ⟨h.ext, h.size, h.num, h.id, h.data, h.t0, h.t1, h.su, h.more, h.place⟩) ?_ h ?_
 . intro f hfm k p v
   have ho := hf f hfm
   refine ⟨rfl, rfl, rfl, ?_, ho.data, ho.t0, ho.t1, rfl, rfl, rfl⟩
   show (ofL (idOf rock k (cutLast f.p).2 f.dir)).size <= 1000
   have hl : (ofL (idOf rock k (cutLast f.p).2 f.dir)).size = (idOf rock k (cutLast f.p).2 f.dir).length := by simp [ofL, ByteArray.size]
   have hc := cutLast_len f.p
   have hp : f.p.length = f.path.size := by rw [Array.length_toList]; rfl
   have := ho.path
   rw [hl]
   unfold idOf
   rw [List.length_append]
   have h1 : (if rock = true then 78 :: decs k 6 else (cutLast f.p).2).length <= 900 := by
    split
    . rw [List.length_cons, decs_length]; decide
    . omega
   have h2 : (if f.dir = true then ([] : List UInt8) else (if rock = true then [46] else []) ++ [59, 49]).length <= 3 := by
    split
    . simp
    . split <;> simp
   omega
 . intro n hn
   rw [List.mem_singleton] at hn
   subst hn
   exact ⟨rfl, rfl, rfl, by decide, by decide, by decide, by decide, rfl, rfl, rfl⟩
theorem okxs_of {rock : Bool} {fs : List File} {ns : List Node} {xs : List XNode} (hl : fs.length <= 60) (hf : ∀ f ∈ fs, FileOk f) (h : addFiles rock [rootNode] fs = some ns) (hs : Shuf ns (XNode.ns xs)) : OkXs rock xs.length xs /\ ∀ x ∈ xs, x.su = [] /\ x.more = [] := by
 have hS := addFiles_sane h Sane.root
 have hN := nodes_ok hf h
 have hF := addFiles_fam h (Fam.start rock)
 rw [List.nil_append] at hF
 have hnl := hF.len
 have hxl : ns.length = xs.length := by rw [hs.1]; simp [XNode.ns]
 suffices hh : ∀ x ∈ xs, OkX rock xs.length x /\ x.su = [] /\ x.more = [] from ⟨⟨rfl, fun x hx => (hh x hx).1⟩, fun x hx => (hh x hx).2⟩
 intro x hx
 obtain ⟨i, hi, e⟩ := List.mem_iff_getElem.1 hx
 have hi' : i < ns.length := by omega
 obtain ⟨l, hp, e2⟩ := hs.2 i hi' (by rw [<- hs.1]; exact hi')
 have e3 : x.toNode = { ns[i] with kids := l } := by rw [<- e2, <- e]; simp [XNode.ns]
 have hm := List.getElem_mem hi'
 have ho := hN _ hm
 have hpar : ns[i].parent < xs.length := by rw [<- hxl]; exact hS.parent _ hm
 have hx0 : x.toNode.su = [] /\ x.toNode.more = [] /\ x.toNode.id.size <= 1000 /\ x.toNode.f.data.size <= 60000 /\ -9223372036854775808 <= x.toNode.f.time /\ x.toNode.f.time <= 9223372036854775807 /\ x.toNode.parent < xs.length /\ x.toNode.kids = l /\ x.toNode.extent = 0 /\ x.toNode.size = 0 /\ x.toNode.number = 0 /\ x.toNode.place = 0 := by
  rw [e3]
  exact ⟨ho.su, ho.more, ho.id, ho.data, ho.t0, ho.t1, hpar, rfl, ho.ext, ho.size, ho.num, ho.place⟩
 obtain ⟨h1, h2, h3, h4, h5, h6, h7, h8, h9, h10, h11, h12⟩ := hx0
 have h1 : x.su = [] := h1
 have h2 : x.more = [] := h2
 have h12 : x.place = 0 := h12
 refine ⟨⟨by rw [h1]; decide, ⟨by rw [h2]; decide, by rw [h12]; decide⟩, fun _ => ⟨h1, h2⟩, h3, h4, h5, h6, h7, ?_, ?_, by rw [h9]; decide, by rw [h10]; decide, by rw [h11]; decide⟩, h1, h2⟩
 . intro k hk
   rw [h8] at hk
   rw [<- hxl]
   exact hS.kid _ hm k (hp.mem_iff.1 hk)
 . rw [h8, hp.length_eq]
   have := hS.kids _ hm
   omega
theorem okxs_rock {xs zs : List XNode} {ab : Nat} (h : OkXs true xs.length xs) (h0 : ∀ x ∈ xs, x.su = [] /\ x.more = []) (hl : xs.length <= 61) (hr : Rocked (XNode.ns xs) (XNode.ns zs) ab) (hlen : ∀ x ∈ xs, 0 < x.parent + 1 -> (restF x.f).length <= 400) : OkXs true xs.length zs := by
 have hxl : (XNode.ns xs).length = xs.length := by simp [XNode.ns]
 have hzl : zs.length = xs.length := by have := hr.len; simpa [XNode.ns] using this
 refine ⟨hzl, fun z hz => ?_⟩
 obtain ⟨i, hi, e⟩ := List.mem_iff_getElem.1 hz
 have hix : i < xs.length := by omega
 obtain ⟨su, mo, pl, hn⟩ := hr.node i
 have ez : nodeAt (XNode.ns zs) i = z.toNode := by rw [nodeAt_ns zs i hi, e]
 have ex : nodeAt (XNode.ns xs) i = xs[i].toNode := nodeAt_ns xs i hix
 rw [ez, ex] at hn
 have ho := h.2 _ (List.getElem_mem hix)
 have hm0 := h0 _ (List.getElem_mem hix)
 have hrl := hlen _ (List.getElem_mem hix) (Nat.succ_pos _)
 have hb := hr.bd
 have hok := hr.ok
 have hz5 : z.toNode.f = xs[i].f /\ z.toNode.id = xs[i].id /\ z.toNode.parent = xs[i].parent /\ z.toNode.kids = xs[i].kids /\ z.toNode.extent = xs[i].extent /\ z.toNode.size = xs[i].size /\ z.toNode.number = xs[i].number := by rw [hn]; exact ⟨rfl, rfl, rfl, rfl, rfl, rfl, rfl⟩
 obtain ⟨a1, a2, a3, a4, a5, a6, a7⟩ := hz5
 have hsm : z.su.length <= 400 /\ z.more.length <= 1000 /\ z.place <= 200000 := by
  rcases Nat.eq_zero_or_pos i with e0 | e0
  . subst e0
    have h1 := hr.su0
    rw [ez] at h1
    have h2 := hok.er
    rw [ez] at h2
    have h1a : z.su = _ := h1.1
    have h1b : z.more = [] := h1.2
    have h2 : z.place + 157 <= ab := h2
    rw [h1a, h1b, suF_len]
    exact ⟨by decide, by decide, by omega⟩
  . have h1 := hr.su i e0 (by omega)
    rw [ez, ex] at h1
    have hfe : xs[i].toNode.f = xs[i].f := rfl
    rw [hfe] at h1
    rcases h1 with ⟨b1, b2, b3⟩ | ⟨b1, b2, b3⟩
    . have b1 : z.su = _ := b1
      have b2 : z.more = [] := b2
      have hpl : z.place <= 200000 := by
       obtain ⟨hs', hm', hp', hnn⟩ := hr.node i
       have : z.place = xs[i].place \/ z.more ≠ [] := by
        exact .inl (hr.keep i e0 (by omega) (by rw [ez]; exact b2) |> fun h => by rw [ez, ex] at h; exact h)
       rcases this with h | h
       . rw [h]; exact ho.more.2
       . exact absurd b2 h
      rw [b1, b2, List.length_append, suF_len]
      exact ⟨by omega, by decide, hpl⟩
    . have b1 : z.su = _ := b1
      have b2 : z.more = _ := b2
      by_cases hme : z.more = []
      . have hpl : z.place <= 200000 := by
         have h := hr.keep i e0 (by omega) (by rw [ez]; exact hme)
         rw [ez, ex] at h
         have h : z.place = xs[i].place := h
         rw [h]; exact ho.more.2
        rw [b1, suF_len, hme]
        exact ⟨by decide, by decide, hpl⟩
      . have h3 := hok.one i e0 (by rw [hr.len]; omega) (by rw [ez]; exact hme)
        rw [ez] at h3
        have h3 : z.place + z.more.length <= _ := h3
        have h4 := hok.er
        rw [b1, suF_len]
        exact ⟨by decide, by rw [b2]; omega, by omega⟩
 refine ⟨hsm.1, hsm.2, (fun h => by cases h), ?_, ?_, ?_, ?_, ?_, ?_, ?_, ?_, ?_, ?_⟩
 . rw [show z.id = z.toNode.id from rfl, a2]; exact ho.id
 . rw [show z.f = z.toNode.f from rfl, a1]; exact ho.data
 . rw [show z.f = z.toNode.f from rfl, a1]; exact ho.t0
 . rw [show z.f = z.toNode.f from rfl, a1]; exact ho.t1
 . rw [show z.parent = z.toNode.parent from rfl, a3]; exact ho.par
 . rw [show z.kids = z.toNode.kids from rfl, a4]; exact ho.kid
 . rw [show z.kids = z.toNode.kids from rfl, a4]; exact ho.kids
 . rw [show z.extent = z.toNode.extent from rfl, a5]; exact ho.ext
 . rw [show z.size = z.toNode.size from rfl, a6]; exact ho.size
 . rw [show z.number = z.toNode.number from rfl, a7]; exact ho.num
theorem okxs_num {rock : Bool} {xs ys : List XNode} {ds : List Nat} (h : OkXs rock xs.length xs) (hn : Num xs ys ds) (hd : ds.length <= 99) : OkXs rock xs.length ys := by
 refine ⟨hn.1, fun y hy => ?_⟩
 obtain ⟨i, hi, e⟩ := List.mem_iff_getElem.1 hy
 have hi' : i < xs.length := by rw [<- hn.1]; exact hi
 have e2 := hn.2 i hi' hi
 have ho := h.2 _ (List.getElem_mem hi')
 rw [e] at e2
 subst e2
 refine ⟨ho.su, ho.more, ho.nr, ho.id, ho.data, ho.t0, ho.t1, ho.par, ho.kid, ho.kids, ho.ext, ho.size, ?_⟩
 show (if i ∈ ds then ds.idxOf i + 1 else xs[i].number) <= 100
 split
 . have := List.idxOf_le_length (a := i) (l := ds); omega
 . exact ho.num
theorem paths_le {rock : Bool} {n : Nat} {zs : List XNode} (h : OkXs rock n zs) (little : Bool) (ds : List Nat) (hd : ∀ d ∈ ds, d < zs.length) : (pathsL (XNode.ns zs) little ds).length <= ds.length * 1010 := by
 rw [pathsL_length]
 induction ds with
 | nil => simp
 | cons d ds ih =>
   have h1 := ih (fun x hx => hd x (by simp [hx]))
   have hdl := hd d (by simp)
   have hi := (h.2 _ (List.getElem_mem hdl)).id
   have e : (pathId (XNode.ns zs) d).length <= 1000 := by
    unfold pathId
    split
    . decide
    . rw [nodeAt_ns zs d hdl]
      show (zs[d].id.data.toList).length <= 1000
      rw [Array.length_toList]; exact hi
   have e2 : evn (pathId (XNode.ns zs) d).length <= 1001 := by unfold evn; split <;> omega
   simp only [List.map_cons, List.sum_cons, List.length_cons]
   omega
structure IM (rock : Bool) (w0 w : World) (g c n Bd co : Nat) (A : Option Addr) (zs : List XNode) (ds : List Nat) (V O N : Nat) (img : List UInt8) : Prop where
 is : IS rock w0 w g c n Bd co A zs ds
 var : w.heap[V]? = some (.cells #[.slice (some ⟨O, 0, none⟩) N N] 27)
 own : Own w O (.slice (some ⟨O, 0, none⟩) N N) img
 len : N = img.length
 lt : w0.heap.size <= O /\ O < V
 nodes : NodesB O (.slice (some ⟨g, 0, none⟩) n c) zs
 dirs : ∀ k, (Value.slice A ds.length co).ownBlock = some k -> k < O
theorem IM.cell {rock : Bool} {w0 w : World} {g c n Bd co V O N : Nat} {A : Option Addr} {zs : List XNode} {ds : List Nat} {img : List UInt8} (h : IM rock w0 w g c n Bd co A zs ds V O N img) : w.cell? ⟨V, 0, none⟩ = some (.slice (some ⟨O, 0, none⟩) N N) := by simp [World.cell?, h.var]
theorem IM.vlt {rock : Bool} {w0 w : World} {g c n Bd co V O N : Nat} {A : Option Addr} {zs : List XNode} {ds : List Nat} {img : List UInt8} (h : IM rock w0 w g c n Bd co A zs ds V O N img) : V < w.heap.size := (Array.getElem?_eq_some_iff.1 h.var).1
theorem IM.later {rock : Bool} {w0 w w' : World} {g c n Bd co V O N : Nat} {A : Option Addr} {zs : List XNode} {ds : List Nat} {img : List UInt8} (h : IM rock w0 w g c n Bd co A zs ds V O N img) (hb : Below w.heap.size w w') : IM rock w0 w' g c n Bd co A zs ds V O N img :=
 ⟨h.is.later hb, by rw [hb.block V h.vlt]; exact h.var, h.own.later hb, h.len, h.lt, h.nodes, h.dirs⟩
theorem IM.lay {rock : Bool} {w0 w : World} {g c n Bd co V O N : Nat} {A : Option Addr} {zs : List XNode} {ds : List Nat} {img : List UInt8} (h : IM rock w0 w g c n Bd co A zs ds V O N img) (B' q blk : Nat) (y : Value) (m : List UInt8) (hq : m.length = q) (hrd : Rd w B' y m) (hfit : blk * 2048 + q <= N) (hN1 : N <= 1000000000) (hb : blk < 4294967296) :
 Calls Tryz.prog 34 #[.int .u32 blk, y, .pointer (some ⟨V, 0, none⟩)] w fun e w' => e = .returned (.tuple #[]) /\ ∃ img', Hid (img' = splice img (blk * 2048) m) /\ IM rock w0 w' g c n Bd co A zs ds V O N img' /\ w.grownBy w' (some O) := by
 refine (lay_any O B' V O N q blk y img m w h.cell h.len h.own hq hrd hfit hN1 hb).mono ?_
 rintro e w' ⟨rfl, hO, hg, hbl⟩
 refine ⟨rfl, _, rfl, ⟨⟨h.is.nodes.keep h.nodes hbl, h.is.ok, ownsRow_keep h.is.dirs hbl h.dirs, h.is.below.trans (hbl.mono h.lt.1)⟩, ?_, hO, ?_, h.lt, h.nodes, h.dirs⟩, hg⟩
 . have hvl := h.lt.2
   rw [hg.block V h.vlt (by simp; omega)]; exact h.var
 . rw [length_splice _ _ _ (by rw [hq, <- h.len]; exact hfit)]; exact h.len
theorem IM.start {rock : Bool} {w0 w w1 : World} {g c n Bd co N : Nat} {A : Option Addr} {zs : List XNode} {ds : List Nat} {L : List UInt8} (h : IS rock w0 w g c n Bd co A zs ds) (hL : L.length = N) (hO : Own w1 w.heap.size (.slice (some ⟨w.heap.size, 0, none⟩) N N) L) (hb : Below w.heap.size w w1) (hs : w1.heap.size = w.heap.size + 1) :
 IM rock w0 (w1.alloc (.cells #[.slice (some ⟨w.heap.size, 0, none⟩) N N] 27)) g c n Bd co A zs ds (w.heap.size + 1) w.heap.size N L := by
 have hb1 : Below w1.heap.size w1 (w1.alloc (.cells #[.slice (some ⟨w.heap.size, 0, none⟩) N N] 27)) := (Below.refl _ _).alloc (Nat.le_refl _) _
 refine ⟨(h.later hb).later hb1, ?_, hO.later hb1, hL.symm, ⟨h.below.size, Nat.lt_succ_self _⟩, h.nodes.bound, fun k hk => (World.ownsRow.lt h.dirs k hk).2⟩
 rw [<- hs]
 show (w1.heap.push _)[w1.heap.size]? = _
 rw [Array.getElem?_push_size]
theorem rd_mark (w : World) (l : List UInt8) (fr : Nat × Nat) : Rd (w.alloc (.cells (BVs l).toArray 5 fr)) (w.heap.size + 1) (.slice (some ⟨w.heap.size, 0, none⟩) l.length l.length) l := by
 refine ⟨_, _, rfl, (by intro ad e; cases e; exact Nat.lt_succ_self _), fun j u hj => ⟨_, rfl, ?_⟩⟩
 rw [Addr.add_mid, Nat.zero_add]
 have hwc : (w.alloc (.cells (BVs l).toArray 5 fr)).heap[w.heap.size]? = some (.cells (BVs l).toArray 5 fr) := by
  show (w.heap.push _)[w.heap.size]? = _; rw [Array.getElem?_push_size]
 simp only [World.cell?, hwc]
 simpa using hj
theorem wp_convFb {o : Oper} {a : Act} {w : World} {K : Act -> World -> Prop} {Q : Exit -> Act -> World -> Prop} (x : Operand) (ho : o.op = .convert 9 27 x) (s : ByteArray) (n : Nat) (hn : n = s.size) (hs : s.size <= 1000000000)
 (hx : a.eval x = .string s) (hK : ∀ b c w', OwnF w' w.heap.size (.slice (some ⟨b, 0, none⟩) n c) s.data.toList -> Below w.heap.size w w' -> K (a.put o.dst (.slice (some ⟨b, 0, none⟩) n c)) w') : Oper.wp Tryz.prog o a w K Q :=
 wp_convF x ho s n hn hs hx (fun c w' h1 h2 => hK _ c w' h1 h2)
theorem IM.recordsAt {rock : Bool} {w0 w W : World} {g c n Bd co V O N : Nat} {A : Option Addr} {zs : List XNode} {ds : List Nat} {img : List UInt8} (h : IM rock w0 w g c n Bd co A zs ds V O N img) (hW : Below w.heap.size w W) (i area : Nat) (hi : i < zs.length) (hn : n <= 100) (har : area <= 200000) :
 Calls Tryz.prog 33 #[.slice (some ⟨g, 0, none⟩) n c, .int .i64 i, .bool rock, .int .u32 area] W fun e w' => ∃ A' c' q, e = .returned (.slice A' q c') /\ Hid ((dirBytesR rock area (XNode.ns zs) i).length = q) /\ Own w' W.heap.size (.slice A' q c') (dirBytesR rock area (XNode.ns zs) i) /\ Below W.heap.size W w' /\ IM rock w0 w' g c n Bd co A zs ds V O N img := by
 refine ((h.later hW).is.records i area hi hn har).mono ?_
 rintro e w' ⟨A', c', q, rfl, hq, hO, hb⟩
 exact ⟨A', c', q, rfl, hq, hO, hb, (h.later hW).later hb⟩
def term7 : List UInt8 := [255, 67, 68, 48, 48, 49, 1]
def filesTo (ns : List Node) (t : Nat) : List Nat := (List.range t).filter (fun i => !dirOf ns i)
def RelR (rock : Bool) (xo xs : List XNode) (ab : Nat) : Prop := (rock = true -> rockAll (XNode.ns xo) = (XNode.ns xs, ab)) /\ (rock = false -> xs = xo /\ ab = 0)
def LaidR (rock : Bool) (ns : List Node) (vol : List UInt8) (ks : List Node) (ds : List Nat) (area next : Nat) (img : List UInt8) : Prop :=
 ∃ (xo xs ys : List XNode) (L ab : Nat) (m1 : List Node), Shuf ns (XNode.ns xo) /\ RelR rock xo xs ab /\ Sim (XNode.ns xo) (XNode.ns xs) /\ OkXs rock xs.length xs /\ Num xs ys ds /\ BQ (XNode.ns xs) ds ds.length 0 /\ L = (pathsL (XNode.ns ys) true ds).length /\
  extC (clenR rock (XNode.ns ys)) (XNode.ns ys) (18 + blocks L + blocks L) ds = (m1, area) /\ extC (clenR rock (XNode.ns ys)) m1 (area + blocks ab) (filesTo (XNode.ns ys) xs.length) = (ks, next) /\
  img = imageR rock ks area next (pvdB vol (isoRec [0] (nodeAt ks 0).extent (nodeAt ks 0).size (nodeAt ks 0).f.time true []) next L 18 (18 + blocks L)) term7 (pathsL ks true ds) (pathsL ks false ds)
theorem filesTo_dir (ns : List Node) (t : Nat) (h : dirOf ns t = true) : filesTo ns (t + 1) = filesTo ns t := by
 unfold filesTo; rw [List.range_succ, List.filter_append]; simp [h]
theorem filesTo_file (ns : List Node) (t : Nat) (h : dirOf ns t = false) : filesTo ns (t + 1) = filesTo ns t ++ [t] := by
 unfold filesTo; rw [List.range_succ, List.filter_append]; simp [h]
theorem pathsL_like {ns ms : List Node} (h : Like ns ms) (a b : Bool) (ds : List Nat) : (pathsL ms a ds).length = (pathsL ns b ds).length := by
 rw [pathsL_length, pathsL_length]
 congr 1
 apply List.map_congr_left
 intro i _
 unfold pathId
 rw [h.id]
theorem isoVolume_b (vol : ByteArray) (x : XNode) (blk pt li bi : Nat) (w : World) (hv : vol.size <= 32) (h1 : blk < 4294967296) (h2 : pt < 4294967296) (h3 : li < 4294967296) (h4 : bi < 4294967296) (h5 : x.extent < 4294967296) (h6 : x.size < 4294967296) (h7 : -9223372036854775808 <= x.f.time) (h8 : x.f.time <= 9223372036854775807) :
 Calls Tryz.prog 35 #[.string vol, .agg x.cells.toArray, .int .u32 blk, .int .u32 pt, .int .u32 li, .int .u32 bi] w fun e w' => ∃ b, e = .returned (.slice (some ⟨b, 0, none⟩) 2048 2048) /\ Own w' w.heap.size (.slice (some ⟨b, 0, none⟩) 2048 2048) (pvdB vol.data.toList (isoRec [0] x.extent x.size x.f.time true []) blk pt li bi) /\ Below w.heap.size w w' :=
 (isoVolume_any vol x blk pt li bi w hv h1 h2 h3 h4 h5 h6 h7 h8).mono fun e w' h => ⟨_, h⟩
theorem dirOf_num {xs ys : List XNode} {ds : List Nat} (hn : Num xs ys ds) (d : Nat) : dirOf (XNode.ns ys) d = dirOf (XNode.ns xs) d := by
 by_cases hdx : d < xs.length
 . have hdy : d < ys.length := by rw [hn.1]; exact hdx
   show (nodeAt (XNode.ns ys) d).f.dir = (nodeAt (XNode.ns xs) d).f.dir
   rw [nodeAt_ns ys d hdy, nodeAt_ns xs d hdx, hn.2 d hdx hdy]
 . have h1 : (XNode.ns ys).length <= d := by simp [XNode.ns, hn.1]; omega
   have h2 : (XNode.ns xs).length <= d := by simp [XNode.ns]; omega
   simp only [dirOf, List.getD_eq_getElem?_getD, List.getElem?_eq_none h1, List.getElem?_eq_none h2]
theorem order_ok {rock : Bool} {fs : List File} {ns : List Node} {xo xs ys : List XNode} {ds : List Nat} (h : addFiles rock [rootNode] fs = some ns) (hs : Shuf ns (XNode.ns xo)) (hm : Sim (XNode.ns xo) (XNode.ns xs)) (hn : Num xs ys ds) (hq : BQ (XNode.ns xs) ds ds.length 0) :
 (ds ++ filesTo (XNode.ns ys) xs.length).Nodup /\ (∀ i, i ∈ ds ++ filesTo (XNode.ns ys) xs.length ↔ i < xs.length) /\ ∀ d ∈ ds, dirOf (XNode.ns ys) d = true := by
 have hF := hs.fam (addFiles_fam h (Fam.start rock))
 have hxl : (XNode.ns xs).length = xs.length := by simp [XNode.ns]
 have hol := hm.len
 have hq' := hm.bq hq
 have hdo : ∀ d, dirOf (XNode.ns ys) d = dirOf (XNode.ns xo) d := fun d => by rw [dirOf_num hn, hm.dir]
 have hdir : ∀ d ∈ ds, dirOf (XNode.ns xo) d = true := by
  intro d hd
  rcases hq'.dir d hd with rfl | h
  . show (nodeAt (XNode.ns xo) 0).f.dir = true
    rw [hF.root.1]; rfl
  . exact h
 refine ⟨?_, fun i => ?_, fun d hd => by rw [hdo]; exact hdir d hd⟩
 . rw [List.nodup_append]
   refine ⟨hq.nodup, (List.nodup_range).filter _, fun a ha b hb e => ?_⟩
   subst e
   unfold filesTo at hb
   rw [List.mem_filter, hdo, hdir a ha] at hb
   simp at hb
 . rw [List.mem_append]
   unfold filesTo
   rw [List.mem_filter, List.mem_range, hdo]
   constructor
   . rintro (h1 | h1)
     . have := hq.lt i h1; omega
     . exact h1.1
   . intro hi
     cases hd : dirOf (XNode.ns xo) i with
     | true => exact .inl (hq'.all hF (i + 1) i (Nat.lt_succ_self i) (by omega) hd)
     | false => exact .inr ⟨hi, rfl⟩
theorem num_keep {xs ys : List XNode} {ds : List Nat} (hn : Num xs ys ds) (i : Nat) : (nodeAt (XNode.ns ys) i).more = (nodeAt (XNode.ns xs) i).more /\ (nodeAt (XNode.ns ys) i).place = (nodeAt (XNode.ns xs) i).place := by
 by_cases hx : i < xs.length
 . have hy : i < ys.length := by rw [hn.1]; exact hx
   rw [nodeAt_ns ys i hy, nodeAt_ns xs i hx, hn.2 i hx hy]
   exact ⟨rfl, rfl⟩
 . have h1 : (XNode.ns ys).length <= i := by simp [XNode.ns, hn.1]; omega
   have h2 : (XNode.ns xs).length <= i := by simp [XNode.ns]; omega
   have he : nodeAt (XNode.ns ys) i = nodeAt (XNode.ns xs) i := by simp only [nodeAt, List.getD_eq_getElem?_getD, List.getElem?_eq_none h1, List.getElem?_eq_none h2]
   rw [he]; exact ⟨rfl, rfl⟩
theorem wrap_int (n : Nat) (h : n < 4294967296) : IntKind.i64.wrap (n : Int) = (n : Int) := by
 unfold IntKind.wrap
 simp [IntKind.signed, IntKind.bits]
 omega
theorem area_fit {ks : List Node} {ab : Nat} (h : AreaOk ks ab) (i : Nat) (h0 : 0 < i) (hi : i < ks.length) (hm : (nodeAt ks i).more ≠ []) : (nodeAt ks i).place + (nodeAt ks i).more.length <= ab := by
 have h1 := h.one i h0 hi hm
 have h2 := h.er
 omega
theorem wp_copyIM {o : Oper} {a : Act} {wa : World} {K : Act -> World -> Prop} {Q : Exit -> Act -> World -> Prop} {rock : Bool} {w0 : World} {g c n Bd co V O N : Nat} {A : Option Addr} {zs : List XNode} {ds : List Nat} {img : List UInt8} (d s : Operand)
 (ho : o.op = .call { callee := .builtin .copy, args := #[d, s], argTypes := #[27, 27] })
 (h : IM rock w0 wa g c n Bd co A zs ds V O N img) (B' off dl dc q : Nat) (y : Value) (m : List UInt8) (hd : a.eval d = .slice (some ⟨O, off, none⟩) dl dc) (hq : q = m.length) (hdl : q <= dl) (hfit : off + q <= N) (hs : a.eval s = y) (hrd : Rd wa B' y m)
 (hK : ∀ w' img', Hid (img' = splice img off m) -> IM rock w0 w' g c n Bd co A zs ds V O N img' -> wa.grownBy w' (some O) -> K (a.put o.dst (goInt q)) w') :
 Oper.wp Tryz.prog o a wa K Q := by
 have hO : O <= wa.heap.size := Nat.le_of_lt (Nat.lt_trans h.lt.2 h.vlt)
 refine wp_copyRd (w0 := wa) (w := wa) d s ho O B' O off N dl dc N q img m y hd h.len h.own (Below.refl _ _) (Below.refl _ _) hO hq hdl hfit hs hrd ?_
 intro w' hOw hbl hln hg
 refine hK w' _ rfl ⟨⟨h.is.nodes.keep h.nodes hbl, h.is.ok, ownsRow_keep h.is.dirs hbl h.dirs, h.is.below.trans (hbl.mono h.lt.1)⟩, ?_, hOw, hln, h.lt, h.nodes, h.dirs⟩ hg
 have hvl := h.lt.2
 rw [hg.block V h.vlt (by simp; omega)]; exact h.var
theorem restF_ne (f : File) : restF f ≠ [] := by
 unfold restF restItems itemsB
 rw [List.flatMap_cons]
 intro e
 have := congrArg List.length e
 rw [List.length_append, Item.len] at this
 simp at this
theorem isoRock_b (B g c n : Nat) (xs : List XNode) (w : World) (hN : NodesW w B (.slice (some ⟨g, 0, none⟩) n c) xs) (hn : n = xs.length) (hl : n <= 100) (hB : B <= w.heap.size) (hx : ∀ x ∈ xs, RkF x) :
 Calls Tryz.prog 28 #[.slice (some ⟨g, 0, none⟩) n c] w fun e w' => ∃ (fb : Bool) (zs : List XNode) (area : Nat), e = .returned (.tuple #[.int .u32 (area : Nat), .bool fb]) /\ Below B w w' /\ (fb = true -> NodesW w' B (.slice (some ⟨g, 0, none⟩) n c) zs /\ rockGo (XNode.ns xs) 0 0 = (XNode.ns zs, area) /\ ∀ i, 0 < i -> i < n -> Fits (nodeAt (XNode.ns xs) i).f) /\ (fb = false -> ∃ x ∈ xs, ¬ Fits x.f) := by
 refine (isoRock_any B g c n xs w hN hn hl hB hx).mono ?_
 rintro e w' ⟨hb, (⟨zs, area, rfl, h1, h2, h3⟩ | ⟨rfl, h⟩)⟩
 . exact ⟨true, zs, area, rfl, hb, fun _ => ⟨h1, h2, h3⟩, (fun h => by cases h)⟩
 . exact ⟨false, [], 0, rfl, hb, (fun h => by cases h), fun _ => h⟩
theorem Sim.refl (ns : List Node) : Sim ns ns := ⟨rfl, fun _ => rfl, fun _ => rfl, fun _ => rfl, fun _ => rfl⟩
structure RkG (f : File) : Prop where
 name : (cutLast f.p).2.length <= 200
 ts : f.target.size <= 200
 link : LinkG f.target.data.toList
 uid : f.uid < 4294967296
 gid : f.gid < 4294967296
 perm : f.perm < 4294967296
 rest : Fits f -> (restF f).length <= 400
theorem rkG_root : RkG rootFile := ⟨by decide, by decide, .inl rfl, by decide, by decide, by decide, fun _ => by decide⟩
theorem isoImageR_any (rock : Bool) (cap : Nat) (A : Option Addr) (fs : List File) (ns : List Node) (vol : ByteArray) (w : World) (hl : fs.length <= 60) (hns : fs.length <= cap) (hA : FilesR w w.heap.size A fs) (hf : ∀ f ∈ fs, FileOk f) (hv : vol.size <= 32) (hm : addFiles rock [rootNode] fs = some ns) (hrk : rock = true -> ∀ f ∈ fs, RkG f) :
 Calls Tryz.prog 11 #[.slice A fs.length cap, .string vol, .bool rock] w fun e w' => Below w.heap.size w w' /\ ((∃ O ks ds area next img, e = .returned (.tuple #[.slice (some ⟨O, 0, none⟩) (next * 2048) (next * 2048), .bool true]) /\ Own w' w.heap.size (.slice (some ⟨O, 0, none⟩) (next * 2048) (next * 2048)) img /\ LaidR rock ns vol.data.toList ks ds area next img /\ (rock = true -> ∀ f ∈ fs, Fits f)) \/ (rock = true /\ e = .returned (.tuple #[.slice none 0 0, .bool false]) /\ ∃ f ∈ fs, ¬ Fits f)) := by
 have hT0 := addFiles_tree hm Tree.root
 have HA := Lib.hid hA; have HF := Lib.hid hf; have HM := Lib.hid hm; have HRK := Lib.hid hrk
 have hm' := hm
 clear hA hf hm hrk
 go_enter Tryz.func11, Tryz.ntmps11
 go_upto_if 34 with (first
  | (go_at_call 27; refine (isoNodes_any cap A fs rock w (by omega) hns HA.out (fun f hf => by have := (HF.out f hf).path; omega)).mono ?_; rintro e w1 ⟨hb1, -, hsome⟩; obtain ⟨g, c, xo, rfl, hN1, hSh⟩ := hsome ns HM.out))
 obtain ⟨hOk, hOk0⟩ := okxs_of hl HF.out HM.out hSh
 have hol : xo.length = fs.length + 1 := by have h1 := (addFiles_fam HM.out (Fam.start rock)).len; have h2 := hSh.1; simp [XNode.ns] at h1 h2; omega
 have hfo : Hid (∀ x ∈ xo, x.f = rootFile \/ x.f ∈ fs) := by
  unfold Hid
  intro x hx
  have hF := hSh.fam (addFiles_fam HM.out (Fam.start rock))
  rw [List.nil_append] at hF
  obtain ⟨i, hi, e⟩ := List.mem_iff_getElem.1 hx
  have e2 : (nodeAt (XNode.ns xo) i).f = x.f := by rw [nodeAt_ns xo i hi, e]
  rw [<- e2]
  rcases Nat.eq_zero_or_pos i with rfl | h0
  . exact .inl hF.root.1
  . have := hF.mem (i - 1) (by omega)
    rw [show i - 1 + 1 = i by omega] at this
    exact .inr this
 have hrel : ∀ xs ab, RelR rock xo xs ab -> (rock = true -> ∀ x ∈ xo, (restF x.f).length <= 400 /\ restF x.f ≠ []) -> Sim (XNode.ns xo) (XNode.ns xs) /\ OkXs rock xo.length xs /\ ab <= 152000 /\ (rock = true -> AreaOk (XNode.ns xs) ab) := by
  intro xs ab hr hx
  cases rock with
  | false =>
    obtain ⟨rfl, rfl⟩ := hr.2 rfl
    exact ⟨Sim.refl _, hOk, by decide, (fun h => by cases h)⟩
  | true =>
    have h1 := hr.1 rfl
    have hx := hx rfl
    have hR := rocked_of (XNode.ns xo) (by simp [XNode.ns]; omega) (fun n hn => by simp only [XNode.ns, List.mem_map] at hn; obtain ⟨x, hx, rfl⟩ := hn; exact (hOk0 x hx).2) (fun n hn => by simp only [XNode.ns, List.mem_map] at hn; obtain ⟨x, hx', rfl⟩ := hn; exact (hx x hx').1) (fun n hn => by simp only [XNode.ns, List.mem_map] at hn; obtain ⟨x, hx', rfl⟩ := hn; exact (hx x hx').2)
    rw [h1] at hR
    have hb := hR.bd
    have hxl : (XNode.ns xo).length = xo.length := by simp [XNode.ns]
    exact ⟨hR.sim, okxs_rock hOk hOk0 (by omega) hR (fun x hx' _ => (hx x hx').1), by simp only at hb; omega, fun _ => hR.ok⟩
 have HREL := Lib.hid hrel
 clear hrel
 go_cut [9, 10] from 35 to 62 (fun _ v10 wx => ∃ (xs : List XNode) (ab : Nat), v10 = .int .u32 ab /\ NodesW wx w.heap.size (.slice (some ⟨g, 0, none⟩) xo.length c) xs /\ RelR rock xo xs ab /\ (rock = true -> (∀ x ∈ xo, (restF x.f).length <= 400 /\ restF x.f ≠ []) /\ ∀ f ∈ fs, Fits f) /\ Below w.heap.size w wx)
 case first =>
  cases rock with
  | false =>
    go_wp2_with (fail)
    go_meet
    exact ⟨xo, 0, rfl, hN1, ⟨(fun h => by cases h), fun _ => ⟨rfl, rfl⟩⟩, (fun h => by cases h), hb1⟩
  | true =>
    have hRK := HRK.out rfl
    have hrg : ∀ x ∈ xo, RkG x.f := fun x hx => by
     rcases hfo.out x hx with h | h
     . rw [h]; exact rkG_root
     . exact hRK _ h
    have hpz : ∀ x ∈ xo, x.f.path.size <= 1000 := fun x hx => by
     rcases hfo.out x hx with h | h
     . rw [h]; decide
     . have := (HF.out _ h).path; omega
    have H28 := Lib.hid (isoRock_b w.heap.size g c xo.length xo w1 hN1 rfl (by omega) hb1.size (fun x hx => ⟨(hOk0 x hx).1, (hOk0 x hx).2, hpz x hx, (hrg x hx).name, (hrg x hx).ts, (hrg x hx).link, (hrg x hx).uid, (hrg x hx).gid, (hrg x hx).perm, (hOk.2 x hx).t0, (hOk.2 x hx).t1, (hrg x hx).rest⟩))
    have hrs : ∀ x ∈ xo, Fits x.f -> (restF x.f).length <= 400 := fun x hx => (hrg x hx).rest
    have HRS := Lib.hid hrs
    have HOL := Lib.hid hol; have HOK := Lib.hid hOk; have HOK0 := Lib.hid hOk0; have HSH := Lib.hid hSh
    clear hRK hrg hpz hrs hol hOk hOk0 hsome hm' hT0 hSh hN1
    go_upto_region 7 with (go_at_call 28; go_must (refine H28.out.mono ?_); rintro e w2 ⟨fb, zs, area, rfl, hb2, hyes, hno⟩)
    have hb02 : Below w.heap.size w w2 := hb1.trans hb2
    cases fb with
    | false =>
      obtain ⟨x, hx, hbad⟩ := hno rfl
      have HX := Lib.hid hx; have HBAD := Lib.hid hbad
      clear hyes hno hx hbad
      go_wp2_with (fail)
      go_ret2
      have hbad2 : ∃ f ∈ fs, ¬ Fits f := by
       rcases hfo.out x HX.out with h | h
       . exact absurd (by rw [h]; intro h2; exact absurd rfl h2) HBAD.out
       . exact ⟨_, h, HBAD.out⟩
      first
       | exact ⟨hb02, .inr ⟨rfl, rfl, hbad2⟩⟩
       | exact ⟨hb02, .inr ⟨rfl, hbad2⟩⟩
    | true =>
      obtain ⟨hN2, hgo, hfit⟩ := hyes rfl
      have hall : ∀ x ∈ xo, Fits x.f := fun x hx => by
       obtain ⟨i, hi, e⟩ := List.mem_iff_getElem.1 hx
       rcases Nat.eq_zero_or_pos i with h0 | h0
       . rcases hfo.out x hx with h | h
         . rw [h]; intro h2; exact absurd rfl h2
         . have hF := HSH.out.fam (addFiles_fam HM.out (Fam.start true))
           subst h0
           have e2 : (nodeAt (XNode.ns xo) 0).f = x.f := by rw [nodeAt_ns xo 0 hi, e]
           rw [<- e2, hF.root.1]; intro h2; exact absurd rfl h2
       . have := hfit i h0 hi
         rw [nodeAt_ns xo i hi, e] at this
         exact this
      have hzl : zs.length = xo.length := by
       have h1 := congrArg (fun p => p.1.length) hgo
       simp only [rockGo_len] at h1
       simpa [XNode.ns] using h1.symm
      have har : area <= 149500 := by
       have h1 := areaTo_bd (XNode.ns xo) (fun n hn => by simp only [XNode.ns, List.mem_map] at hn; obtain ⟨x, hx, rfl⟩ := hn; exact HRS.out x hx (hall x hx)) (XNode.ns xo).length (Nat.le_refl _)
       rw [<- areaTo_all, hgo] at h1
       simp only [XNode.ns, List.length_map] at h1
       have := HOL.out
       omega
      have HALL := Lib.hid hall; have HGO := Lib.hid hgo
      have zt : (area : Int).tmod 2048 = (area : Int) % 2048 := by rw [Int.tmod_eq_emod_of_nonneg (by omega)]
      have hxo0 : 0 < zs.length := by have := HOL.out; omega
      have HZL := Lib.hid hzl
      have hgl := hN2.cells
      have HN2 := Lib.hid hN2
      clear hyes hno hall hgo hfit hgl hN2
      obtain ⟨a1, ha1⟩ : ∃ a1, rockAt area 157 = a1 := ⟨_, rfl⟩
      have ha1b : area <= a1 /\ a1 <= area + 2048 := by have := rockAt_bd area 157 (by omega); rw [ha1] at this; exact ⟨this.1, this.2.1⟩
      have hlen0 : (0 : Int) < (xo.length : Int) := by have := HOL.out; omega
      clear hzl
      by_cases h2 : 2048 < area % 2048 + 157
      focus
       have h2I : (2048 : Int) < (area : Int) % 2048 + 157 := by omega
       go_upto_region 11 with (go_at_call 29; go_must (refine (rockER_any _).mono ?_); rintro e w3 ⟨⟨v3, rfl, ho3⟩, hx3⟩; obtain ⟨A3, c3, rfl, _, _⟩ := ho3.shape; rw [erB_len] at ho3 ⊢)
       rw [show (area : Int) + (2048 - (area : Int) % 2048) = ((a1 : Nat) : Int) from by rw [<- ha1]; unfold rockAt; rw [if_pos h2]; omega]
       skip
      rotate_left
      focus
       have h2I : ¬ (2048 : Int) < (area : Int) % 2048 + 157 := by omega
       go_upto_region 11 with (go_at_call 29; go_must (refine (rockER_any _).mono ?_); rintro e w3 ⟨⟨v3, rfl, ho3⟩, hx3⟩; obtain ⟨A3, c3, rfl, _, _⟩ := ho3.shape; rw [erB_len] at ho3 ⊢)
       have e1 : a1 = area := by rw [<- ha1]; unfold rockAt; rw [if_neg h2]
       rw [show Value.int IntKind.u32 (area : Nat) = Value.int IntKind.u32 (a1 : Nat) from by rw [e1]]
       clear e1
       skip
      all_goals
       have HA1 := Lib.hid ha1
       have hN3 := HN2.out.later hx3
       have hb3 : Below w.heap.size w w3 := hb02.trans (hx3.mono hb02.size)
       have k15 := hN3.cells 0 hxo0 15 _ rfl
       have f15 := hN3.frozen HZL.out.symm 15
       rw [Nat.zero_mul, Nat.zero_add] at k15
       have S15 := hN3.setField HZL.out.symm 0 hxo0 15 (by decide) (.int .u32 (a1 : Nat)) { zs[0] with place := a1 } rfl ⟨rfl, rfl, rfl, rfl, rfl, rfl, rfl, rfl, rfl⟩
       rw [Nat.zero_mul, Nat.zero_add] at S15
       have HS15 := Lib.hid S15.1
       have hgw := (hN3.len_le HZL.out.symm).2.1
       have hb4 : Below w.heap.size w (w3.setCell ⟨g, 15, none⟩ (.int .u32 (a1 : Nat))) := hb3.setCell hgw _
       clear ha1 h2 h2I zt hN3 hx3 ho3 S15 hb3
       have hsz4 : w3.heap.size = (w3.setCell ⟨g, 15, none⟩ (.int .u32 (a1 : Nat))).heap.size := by simp
       go_wp2_with (go_at_call 29; go_must (refine (rockER_any _).mono ?_); rintro e w5 ⟨⟨v5, rfl, ho5⟩, hx5⟩; obtain ⟨A5, c5, rfl, _, _⟩ := ho5.shape; rw [erB_len] at ho5 ⊢)
       go_meet
       refine ⟨zs.set 0 { zs[0] with place := a1 }, a1 + 157, by first | rfl | (congr 1; omega) | (simp; done), HS15.out.later hx5, ⟨fun _ => ?_, (fun h => by cases h)⟩, fun _ => ⟨fun x hx => ⟨HRS.out x hx (HALL.out x hx), restF_ne x.f⟩, fun f hf => ?_⟩, hb4.trans (hx5.mono hb4.size)⟩
       . unfold rockAll
         rw [HGO.out, HA1.out]
         simp only [XNode.ns, List.map_set]
         have e0 : nodeAt (XNode.ns zs) 0 = zs[0].toNode := nodeAt_ns zs 0 hxo0
         simp only [XNode.ns] at e0
         rw [e0]
       . obtain ⟨k, hk, e⟩ := List.mem_iff_getElem.1 hf
         have hF := HSH.out.fam (addFiles_fam HM.out (Fam.start true))
         rw [List.nil_append] at hF
         have hk1 : k + 1 < xo.length := by have := HOL.out; omega
         have h1 := hF.file k hk
         rw [List.getElem?_eq_getElem hk, nodeAt_ns xo (k + 1) hk1] at h1
         have h2 : f = xo[k + 1].f := by rw [<- e]; exact Option.some.inj h1
         rw [h2]; exact HALL.out _ (List.getElem_mem _)
 case rest =>
  obtain ⟨xs, ab, hv10, hNx, hRel, hFt, hb1x⟩ := hcut
  subst hv10
  obtain ⟨hsim, hOkx, hab, hAr⟩ := HREL.out xs ab hRel (fun h => (hFt h).1)
  have HAR := Lib.hid hAr
  clear hAr
  have hxl0 : xs.length = xo.length := hOkx.1
  rw [<- hxl0] at hNx hOkx ⊢
  have hTx := hsim.tree (hSh.tree hT0)
  have hxl : xs.length <= 61 := by omega
  have HFT := Lib.hid hFt; have HRL := Lib.hid hRel; have HSIM := Lib.hid hsim; have HOKX := Lib.hid hOkx; have HTX := Lib.hid hTx; have HSH := Lib.hid hSh; have HM' := Lib.hid hm'; have HNX := Lib.hid hNx
  obtain ⟨wx, hwx⟩ : ∃ W, W = wc := ⟨_, rfl⟩
  subst hwx
  clear hFt hRel hsim hOkx hTx hSh hm' hNx hxl0 hol hOk hOk0 hsome hT0 hN1 hb1 hfo HREL
  go_wp2_with (first
   | (go_at_call 32; refine (blocksOf_any L _ (by omega)).mono ?_; rintro e w' ⟨rfl, rfl⟩)
   | (go_at_call 31; refine (hI2.paths true hdl (by omega)).mono ?_; rintro e w3 ⟨A3, c3, L, rfl, hL, hO3, hb3⟩; have hI3 := hI2.later hb3; have hLb : L <= 62000 := (by have := paths_le hI2.ok true ds hdl; have := hL.out; omega); have hbL : blocks L <= 31 := (by unfold blocks; omega))
   | (go_at_call 30; refine (isoDirs_any w.heap.size g c xs wx HNX.out HTX.out (by omega) hb1x.size).mono ?_; rintro e w2 ⟨A2, co, ds, ys, rfl, hD⟩; have hdl0 := hD.q.le; have hdn : ds.length <= xs.length := (by simpa [XNode.ns] using hdl0); have hI2 : IS rock w w2 g c xs.length wx.heap.size co A2 ys ds := ⟨hD.nodes, okxs_num HOKX.out hD.num (by omega), hD.row, hb1x.grown hD.gb hb1x.size (by intro k hk; cases hk; exact (HNX.out.len_le rfl).2.1)⟩; have hdl : ∀ d ∈ ds, d < ys.length := (fun d hd => by rw [hD.num.1]; have := hD.q.lt d hd; simpa [XNode.ns] using this)))
  obtain ⟨hord1, hord2, hdirs⟩ := order_ok HM'.out HSH.out HSIM.out hD.num hD.q
  have HORD := Lib.hid (And.intro hord1 hord2)
  clear hord1 hord2
  have hyl : ys.length = xs.length := hD.num.1
  have hpos : 0 < xs.length := by have := HTX.out.pos; simpa [XNode.ns] using this
  have HD := Lib.hid hdirs
  have HL := Lib.hid hL
  clear hO3 hb3 hdirs hL
  go_loopw [13, 17, 80] (fun nv _ cv wr => ∃ (t nx : Nat) (zs : List XNode), t <= ds.length /\ cv = .int .i64 t /\ nv = .int .u32 nx /\ IS rock w wr g c xs.length wx.heap.size co A2 zs ds /\ nx <= 18 + blocks L + blocks L + t * 225 /\ Hid (extC (clenR rock (XNode.ns ys)) (XNode.ns ys) (18 + blocks L + blocks L) (ds.take t) = (XNode.ns zs, nx))) (fun _ _ cv _ => ds.length - (intOf cv).toNat)
  case atStart => exact ⟨0, _, ys, by omega, rfl, by simp, hI3, Nat.le_add_right _ _, rfl⟩
  case round =>
   clear hI3
   obtain ⟨t, nx, zs, ht, rfl, rfl, hI, hnx, hE⟩ := hrel
   by_cases hlt : t < ds.length
   . obtain ⟨go, rfl, hgo⟩ := hI.dirs.cell t hlt
     obtain ⟨d, hdd⟩ : ∃ d, ds.getD t 0 = d := ⟨_, rfl⟩
     rw [hdd] at hgo
     have hdm : d ∈ ds := by rw [<- hdd]; exact getD_mem hlt
     have hdz : d < zs.length := by rw [hI.ok.1]; have := hdl d hdm; omega
     have hdx : d < xs.length := by rw [<- hI.ok.1]; exact hdz
     have hLk : Like (XNode.ns ys) (XNode.ns zs) := by have := extC_like (clenR rock (XNode.ns ys)) (XNode.ns ys) (18 + blocks L + blocks L) (ds.take t); rw [hE.out] at this; exact this
     have hcl : clenR rock (XNode.ns ys) d = (dirBytesR rock 1 (XNode.ns zs) d).length := by
      rw [<- hLk.clenR]; unfold clenR; rw [if_pos]; rw [hLk.dir]; exact HD.out d hdm
     have hcb := clenR_le hI.ok d hdz
     have hcb2 := blocks_clenR hI.ok d hdz
     rw [hLk.clenR] at hcb hcb2
     have HCL := Lib.hid hcl; have HDD := Lib.hid hdd
     have HI := Lib.hid hI
     have htl : t <= 61 := by omega
     clear hcl hdd hI hLk
     go_wp2_with (first
      | (go_at_call 32; refine (blocksOf_any q _ (by omega)).mono ?_; rintro e w' ⟨rfl, rfl⟩)
      | (go_at_call 33; refine (HI.out.records d 1 hdz (by omega) (by decide)).mono ?_; rintro e w3 ⟨A3, c3, q, rfl, hq, hO3, hb3⟩; have hq1 : q <= 460000 := (by rw [HCL.out, hq.out] at hcb; exact hcb); have hq2 : blocks q <= 225 := (by rw [HCL.out, hq.out] at hcb2; exact hcb2); have hI3 := HI.out.later hb3; have hc1 := hI3.cell d hdz 11 _ rfl; have hf1 := hI3.frozen (d * 18 + 11); obtain ⟨hIs, hc2, hf2⟩ := hI3.store d hdz nx q (by omega) (by omega); have hc3 := hIs.cell d (by rw [List.length_set]; exact hdz) 12 (.int .u32 q) (by simp); have HIS := Lib.hid hIs; clear hIs hI3))
     go_roundw
     case rel =>
      refine ⟨t + 1, nx + blocks q, _, hlt, by simp, by simp, HIS.out, by omega, ?_⟩
      unfold Hid
      rw [take_snoc hlt, HDD.out, extC_snoc hE.out, ns_set zs d hdz, HCL.out, hq.out]
     case measure => simp [intOf]; omega
   . have hte : t = ds.length := by omega
     subst hte
     rw [List.take_length] at hE
     obtain ⟨z1, hz1⟩ : ∃ z1, z1 = zs := ⟨_, rfl⟩
     have hE1 : Hid (extC (clenR rock (XNode.ns ys)) (XNode.ns ys) (18 + blocks L + blocks L) ds = (XNode.ns z1, nx)) := by unfold Hid; rw [hz1]; exact hE.out
     have hba : blocks ab <= 75 := by unfold blocks; omega
     have HI := Lib.hid hI
     clear hI
     go_wp2_with (go_at_call 32; refine (blocksOf_any ab _ (by omega)).mono ?_; rintro e w' ⟨rfl, rfl⟩)
     have hnx0 : nx <= 18 + blocks L + blocks L + 61 * 225 := by omega
     clear hnx hlt ht
     go_loopw [13, 19, 117] (fun nv _ cv wr => ∃ (t nx' : Nat) (zs : List XNode), t <= xs.length /\ cv = .int .i64 t /\ nv = .int .u32 nx' /\ IS rock w wr g c xs.length wx.heap.size co A2 zs ds /\ nx' <= nx + blocks ab + t * 225 /\ Hid (extC (clenR rock (XNode.ns ys)) (XNode.ns z1) (nx + blocks ab) (filesTo (XNode.ns ys) t) = (XNode.ns zs, nx'))) (fun _ _ cv _ => xs.length - (intOf cv).toNat)
     case atStart => exact ⟨0, nx + blocks ab, zs, by omega, rfl, by first | rfl | (simp; done) | (congr 1; omega), HI.out, by omega, by unfold Hid; rw [hz1]; rfl⟩
     case round =>
      clear HI hE hz1
      obtain ⟨t, nx', zs, ht, rfl, rfl, hI, hnx, hE⟩ := hrel
      by_cases hlt : t < xs.length
      . have hdz : t < zs.length := by rw [hI.ok.1]; exact hlt
        have hLk : Like (XNode.ns ys) (XNode.ns zs) := by have := (extC_like (clenR rock (XNode.ns ys)) (XNode.ns ys) (18 + blocks L + blocks L) ds); rw [hE1.out] at this; have h2 := extC_like (clenR rock (XNode.ns ys)) (XNode.ns z1) (nx + blocks ab) (filesTo (XNode.ns ys) t); rw [hE.out] at h2; exact this.trans h2
        have hdr : dirOf (XNode.ns ys) t = zs[t].f.dir := by
         rw [<- hLk.dir]; show (nodeAt (XNode.ns zs) t).f.dir = _; rw [nodeAt_ns zs t hdz]
        have ct1 := hI.cell t hdz 1 _ rfl
        have ct2 := hI.cell t hdz 2 _ rfl
        have HDR := Lib.hid hdr
        cases hdir : zs[t].f.dir with
        | true =>
          rw [hdir] at ct1
          have HI := Lib.hid hI; have HDI := Lib.hid hdir
          clear hI hLk hdr hdir
          go_wp2_with fail
          go_roundw
          case rel => exact ⟨t + 1, nx', zs, hlt, by simp, rfl, HI.out, by omega, by unfold Hid; rw [filesTo_dir _ _ (by rw [HDR.out]; exact HDI.out)]; exact hE.out⟩
          case measure => simp [intOf]; omega
        | false =>
          rw [hdir] at ct1
          have hcl : clenR rock (XNode.ns ys) t = zs[t].f.data.size := by
           rw [<- hLk.clenR]; unfold clenR; rw [if_neg]
           . rw [nodeAt_ns zs t hdz]
           . rw [hLk.dir, hdr, hdir]; simp
          have hqs := (hI.ok.2 _ (List.getElem_mem hdz)).data
          have hcb2 := blocks_clenR hI.ok t hdz
          rw [hLk.clenR, hcl] at hcb2
          have hc1 := hI.cell t hdz 11 _ rfl
          have hf1 := hI.frozen (t * 18 + 11)
          obtain ⟨hIs, hc2, hf2⟩ := hI.store t hdz nx' zs[t].f.data.size (by omega) (by omega)
          have hc3 := hIs.cell t (by rw [List.length_set]; exact hdz) 2 (.string zs[t].f.data) (by simp)
          have HIS := Lib.hid hIs; have HDI := Lib.hid hdir; have HCL := Lib.hid hcl
          clear hI hLk hdr hdir hIs hcl
          go_wp2_with (go_at_call 32; refine (blocksOf_any zs[t].f.data.size _ (by omega)).mono ?_; rintro e w' ⟨rfl, rfl⟩)
          go_roundw
          case rel =>
           refine ⟨t + 1, nx' + blocks zs[t].f.data.size, _, hlt, by simp, by simp, HIS.out, by omega, ?_⟩
           unfold Hid
           rw [filesTo_file _ _ (by rw [HDR.out]; exact HDI.out), extC_snoc hE.out, ns_set zs t hdz, HCL.out]
          case measure => simp [intOf]; omega
      . have hte : t = xs.length := by omega
        subst hte
        have HI := Lib.hid hI
        clear hI
        have hlo : 18 + blocks L + blocks L <= nx' /\ nx + blocks ab <= nx' := by have h1 := extC_le (clenR rock (XNode.ns ys)) (XNode.ns ys) (18 + blocks L + blocks L) ds; rw [hE1.out] at h1; have h2 := extC_le (clenR rock (XNode.ns ys)) (XNode.ns z1) (nx + blocks ab) (filesTo (XNode.ns ys) xs.length); rw [hE.out] at h2; simp only at h1 h2; omega
        have hLb2 := blocks_le L
        have hz0 : 0 < zs.length := by rw [HI.out.ok.1]; exact hpos
        have ok0 := HI.out.ok.2 _ (List.getElem_mem hz0)
        have hnx2 : nx' <= 40000 := by omega
        obtain ⟨N, hN⟩ : ∃ N, nx' * 2048 = N := ⟨_, rfl⟩
        have hLk : Like (XNode.ns ys) (XNode.ns zs) := by have := (extC_like (clenR rock (XNode.ns ys)) (XNode.ns ys) (18 + blocks L + blocks L) ds); rw [hE1.out] at this; have h2 := extC_like (clenR rock (XNode.ns ys)) (XNode.ns z1) (nx + blocks ab) (filesTo (XNode.ns ys) xs.length); rw [hE.out] at h2; exact this.trans h2
        have hP1 := Lib.hid ((pathsL_like hLk true true ds).trans HL.out)
        have hP2 := Lib.hid ((pathsL_like hLk false true ds).trans HL.out)
        have hdz : ∀ d ∈ ds, d < zs.length := fun d hd => by rw [HI.out.ok.1, <- hyl]; exact hdl d hd
        have HLK := Lib.hid hLk
        clear hLk
        have HNN := Lib.hid hN
        obtain ⟨b18, hb18⟩ : ∃ b, 18 + blocks L = b := ⟨_, rfl⟩
        have hb18i : (18 + (blocks L : Int)) = (b18 : Int) := by omega
        rw [hb18i]
        have HB := Lib.hid hb18
        have hb18a : b18 < 4294967296 := by omega
        have hb18f : b18 * 2048 + L <= N := by omega
        clear hb18 hb18i
        have x0 := ok0.ext; have x1 := ok0.size; have x2 := ok0.t0; have x3 := ok0.t1
        clear hnx hnx0 ht hlt hN
        have kc := fun (w : World) (C : Array Value) (n c : Nat) => Lib.run_convert_bytes_const (P := Tryz.prog) w 27 5 C n c Tryz.underlying27 under5
        go_wp2_with (first
         | (go_at_call 34; refine (HM7.lay _ L b18 _ _ hP2.out hO10.rd hb18f (by have := HNN.out; omega) hb18a).mono ?_; rintro e w11 ⟨rfl, img4, hi4, HM8, hg11⟩)
         | (go_at_call 31; refine (HM6.is.paths false hdz (by omega)).mono ?_; rintro e w10 ⟨A10, c10, q10, rfl, hq10, hO10, hb10⟩; have hqe10 : L = q10 := (by rw [<- hq10.out]; exact hP2.out.symm); subst hqe10; have HM7 := HM6.later hb10)
         | (go_at_call 34; refine (HM5.lay _ L 18 _ _ hP1.out hO8.rd (by have := HNN.out; omega) (by have := HNN.out; omega) (by decide)).mono ?_; rintro e w9 ⟨rfl, img3, hi3, HM6, hg9⟩)
         | (go_at_call 31; refine (HM3.is.paths true hdz (by omega)).mono ?_; rintro e w8 ⟨A8, c8, q8, rfl, hq8, hO8, hb8⟩; have hqe8 : L = q8 := (by rw [<- hq8.out]; exact hP1.out.symm); subst hqe8; have HM5 := HM3.later hb8)
         | (go_at_call 34; refine ((HM2.later (w' := w5.alloc (.cells (BVs term7).toArray 5 (7, 8))) ((Below.refl _ _).alloc (Nat.le_refl _) _)).lay _ 7 17 _ term7 rfl (rd_mark w5 term7 (7, 8)) (by have := HNN.out; omega) (by have := HNN.out; omega) (by decide)).mono ?_; rintro e w7 ⟨rfl, img2, hi2, HM3, hg7⟩)
         | (go_at_call 34; refine (HM1.lay _ 2048 16 _ _ (pvdB_length _ _ _ _ _ _ (by rw [Array.length_toList]; exact hv) (by rw [isoRec_length]; rfl)) hO4.rd (by have := HNN.out; omega) (by have := HNN.out; omega) (by decide)).mono ?_; rintro e w5 ⟨rfl, img1, hi1, HM2, hg5⟩)
         | (go_at_call 35; refine (isoVolume_b vol zs[0] nx' L 18 b18 _ hv (by omega) (by omega) (by decide) hb18a (by omega) (by omega) x2 x3).mono ?_; rintro e w4 ⟨b4, rfl, hO4, hb4⟩; have HM1 := HM0.later hb4)
         | (refine atLoad 64 ?_; refine wpList_loadNode rfl _ rfl (g := g) (i := 0) (ns := zs) rfl HM0.is.nodes.cells hz0 ?_)
         | (at_make; refine asList rfl fun KK hKK => ?_; refine go_makeN (w0 := wr) (.tmp 157) (.tmp 157) rfl wr.heap.size _ _ _ _ N N rfl rfl (by have := HNN.out; omega) (by have := HNN.out; omega) (Nat.le_refl _) (by have := HNN.out; omega) (Below.refl _ _) (Nat.le_refl _) ?_; intro wm Lm hLm hlm hOm hbm hsm; have HM0 := IM.start HI.out hlm.out hOm hbm hsm; refine hKK _ _ ?_; clear hKK KK))
        have HPL := Lib.hid (placed_of (clenR rock (XNode.ns ys)) (XNode.ns ys) (XNode.ns z1) (XNode.ns zs) (18 + blocks L + blocks L) nx (blocks ab) nx' ds (filesTo (XNode.ns ys) xs.length) hE1.out hE.out HORD.out.1 (fun i => by rw [show (XNode.ns ys).length = xs.length by simp [XNode.ns, hyl]]; exact HORD.out.2 i))
        have HFIT : ∀ (t : Nat) (h : t < zs.length), zs[t].extent * 2048 + clenR rock (XNode.ns zs) t <= N := by
         intro t h
         have hx := (HPL.out.at' t (by simpa [XNode.ns] using h)).2.2.1
         rw [nodeAt_ns zs t h] at hx
         rw [HLK.out.clenR]
         have h4 := blocks_le (clenR rock (XNode.ns ys) t)
         have h5 := HNN.out
         have h6 : (zs[t].extent + blocks (clenR rock (XNode.ns ys) t)) * 2048 <= nx' * 2048 := Nat.mul_le_mul_right _ hx
         omega
        obtain ⟨D4, hD4⟩ : ∃ D : List (Nat × List UInt8), D = [(16 * 2048, pvdB vol.data.toList (isoRec [0] zs[0].extent zs[0].size zs[0].f.time true []) nx' L 18 b18), (17 * 2048, term7), (18 * 2048, pathsL (XNode.ns zs) true ds), (b18 * 2048, pathsL (XNode.ns zs) false ds)] := ⟨_, rfl⟩
        have HD4 := Lib.hid hD4
        have hI4 : img4 = putAll (zeros N) (D4 ++ nodeLaysR rock (XNode.ns zs) nx 0) := by
         rw [hD4, hi4.out, hi3.out, hi2.out, hi1.out, hLm.out]; rfl
        have HI4 := Lib.hid hI4
        obtain ⟨O, hOe⟩ : ∃ O, O = wr.heap.size := ⟨_, rfl⟩
        rw [<- hOe] at HM8 ⊢
        clear hI4 hD4 HM0 HM1 HM2 HM3 HM5 HM6 HM7 hg5 hg7 hg9 hg11 hb4 hb8 hb10 hO4 hO8 hO10 hi1 hi2 hi3 hi4 hLm hOm hbm hsm hlm kc hOe hq8 hq10
        go_loopw [22, 23, 190] (fun _ _ cv wr => ∃ (t : Nat) (img : List UInt8), t <= xs.length /\ cv = .int .i64 t /\ IM rock w wr g c xs.length wx.heap.size co A2 zs ds (O + 1) O N img /\ Hid (img = putAll (zeros N) (D4 ++ nodeLaysR rock (XNode.ns zs) nx t))) (fun _ _ cv _ => xs.length - (intOf cv).toNat)
        case atStart => exact ⟨0, img4, by omega, rfl, HM8, HI4⟩
        case round =>
         clear HM8 HI4
         obtain ⟨t, img, ht, rfl, hM, hIm⟩ := hrel
         by_cases hlt : t < xs.length
         . have htz : t < zs.length := by rw [HI.out.ok.1]; exact hlt
           have okt := HI.out.ok.2 _ (List.getElem_mem htz)
           cases hdir : zs[t].f.dir with
           | true =>
             have hct : contentR rock nx (XNode.ns zs) t = dirBytesR rock nx (XNode.ns zs) t := by
              unfold contentR; rw [if_pos]; show (nodeAt (XNode.ns zs) t).f.dir = true; rw [nodeAt_ns zs t htz]; exact hdir
             have hcl : clenR rock (XNode.ns zs) t = (dirBytesR rock nx (XNode.ns zs) t).length := by rw [<- contentR_len rock nx, hct]
             go_wp2_with (first
              | (refine atLoad 64 ?_; refine wpList_loadNode rfl _ rfl rfl hM.is.nodes.cells htz ?_)
              | (refine atStore 64 ?_; refine wpList_storeNew rfl 64 _ _ rfl _ _ _ _ rfl rfl (by exact info64) (by rfl) (by rfl) ?_))
             have hMr := Lib.hid hM
             have HCLt := Lib.hid hcl
             clear hcl
             have KB : ∀ (cs : List Value), cs[11]? = some (.int .u32 zs[t].extent) -> ∀ W : World, Below (wr.heap.size + 1) (wr.alloc (.cells cs.toArray 64)) W -> W.cell? ⟨wr.heap.size, 11, none⟩ = some (.int .u32 zs[t].extent) := by
              intro cs hcs W hW
              rw [hW.cell (p := ⟨wr.heap.size, 11, none⟩) (Nat.lt_succ_self _)]
              have := rangeAt_alloc wr cs 64 11 _ hcs
              rwa [Nat.zero_add] at this
             have KB' := Lib.hid KB
             have hOz : O < wr.heap.size := Nat.lt_trans hM.lt.2 hM.vlt
             clear KB hM
             refine wp_region_held_drew (S := fun W => W.cell? ⟨wr.heap.size, 11, none⟩ = some (.int .u32 zs[t].extent)) (by kernel_rfl) (KB'.out _ (by rfl) _ (Below.refl _ _).drew) (fun hHeld => ?_)
             refine wpAnyH_take (i := 0) (v := .func (.func 34) #[] #[.pointer (some ⟨O + 1, 0, none⟩)]) (rfl : _ = some (Oper.mk _ _ _ _ _ _)) (by kernel_rfl) (by kernel_rfl) (by kernel_rfl) (fun _ _ _ h => h) (Or.inl ⟨by rfl, fun W hW => ?_⟩) (by assumption) ?_
             . first | (go_simp; done) | (try dsimp only at hW; go_simp; done) | (try dsimp only at hW; simp [execOp, *]; done)
             try simp only [Act.put, List.setIfInBounds_toArray, List.set_cons_zero, List.set_cons_succ]
             refine wpAnyH_take (i := 1) (v := .pointer (some ⟨wr.heap.size, 11, none⟩)) (rfl : _ = some (Oper.mk _ _ _ _ _ _)) (by kernel_rfl) (by kernel_rfl) (by kernel_rfl) (fun _ _ _ h => h) (Or.inl ⟨by rfl, fun W hW => ?_⟩) (by assumption) ?_
             . first | (go_simp; done) | (try dsimp only at hW; go_simp; done) | (try dsimp only at hW; simp [execOp, *]; done)
             try simp only [Act.put, List.setIfInBounds_toArray, List.set_cons_zero, List.set_cons_succ]
             refine wpAnyH_take (i := 2) (v := .int .u32 zs[t].extent) (rfl : _ = some (Oper.mk _ _ _ _ _ _)) (by kernel_rfl) (by kernel_rfl) (by kernel_rfl) (fun _ _ _ h => h) (Or.inl ⟨by rfl, fun W hW => ?_⟩) (by assumption) ?_
             . first | (go_simp; done) | (try dsimp only at hW; go_simp; done) | (try dsimp only at hW; simp [execOp, *]; done)
             try simp only [Act.put, List.setIfInBounds_toArray, List.set_cons_zero, List.set_cons_succ]
             refine wpAnyH_take (i := 3) (v := .slice (some ⟨g, 0, none⟩) xs.length c) (rfl : _ = some (Oper.mk _ _ _ _ _ _)) (by kernel_rfl) (by kernel_rfl) (by kernel_rfl) (fun _ _ _ h => h) (Or.inl ⟨by rfl, fun W hW => ?_⟩) (by assumption) ?_
             . first | (go_simp; done) | (try dsimp only at hW; go_simp; done) | (try dsimp only at hW; simp [execOp, *]; done)
             try simp only [Act.put, List.setIfInBounds_toArray, List.set_cons_zero, List.set_cons_succ]
             refine wpAnyH_take (i := 4) (v := .int .i64 t) (rfl : _ = some (Oper.mk _ _ _ _ _ _)) (by kernel_rfl) (by kernel_rfl) (by kernel_rfl) (fun _ _ _ h => h) (Or.inl ⟨by rfl, fun W hW => ?_⟩) (by assumption) ?_
             . first | (go_simp; done) | (try dsimp only at hW; go_simp; done) | (try dsimp only at hW; simp [execOp, *]; done)
             try simp only [Act.put, List.setIfInBounds_toArray, List.set_cons_zero, List.set_cons_succ]
             refine wpAnyH_take (i := 5) (v := .bool rock) (rfl : _ = some (Oper.mk _ _ _ _ _ _)) (by kernel_rfl) (by kernel_rfl) (by kernel_rfl) (fun _ _ _ h => h) (Or.inl ⟨by rfl, fun W hW => ?_⟩) (by assumption) ?_
             . first | (go_simp; done) | (try dsimp only at hW; go_simp; done) | (try dsimp only at hW; simp [execOp, *]; done)
             try simp only [Act.put, List.setIfInBounds_toArray, List.set_cons_zero, List.set_cons_succ]
             refine wpAnyH_take (i := 6) (v := .int .u32 nx) (rfl : _ = some (Oper.mk _ _ _ _ _ _)) (by kernel_rfl) (by kernel_rfl) (by kernel_rfl) (fun _ _ _ h => h) (Or.inl ⟨by rfl, fun W hW => ?_⟩) (by assumption) ?_
             . first | (go_simp; done) | (try dsimp only at hW; go_simp; done) | (try dsimp only at hW; simp [execOp, *]; done)
             try simp only [Act.put, List.setIfInBounds_toArray, List.set_cons_zero, List.set_cons_succ]
             refine wpAnyH_ready (rs := [7]) (by kernel_rfl) (by simp) ?_
             refine AllReadyH.cons (rfl : _ = some (Oper.mk _ _ _ _ _ _)) (fun K hKK => ?_) AllReadyH.nil
             rw [if_pos (by rfl)]
             go_simp
             refine (hMr.out.recordsAt ?hW t nx htz (by omega) (by omega)).mono ?_
             case hW => exact ((Below.refl _ _).alloc (Nat.le_refl _) _).drew
             rintro e u1 ⟨A1, c1, q1, rfl, hq1, hO1, hb1, HM1⟩
             have hlt1 := World.block_lt_of_cell? _ _ hHeld
             have kc1 := (hb1.cell (p := ⟨wr.heap.size, 11, none⟩) hlt1).trans hHeld
             have hqq := Lib.hid (show q1 = clenR rock (XNode.ns zs) t by rw [<- hq1.out, HCLt.out])
             have hfit := HFIT t htz
             go_wp2_with fail
             refine hKK.out _ _ (by exact kc1) (fun hHeld' => ?_)
             clear hKK K hHeld
             have hHeld := hHeld'
             clear hHeld'
             try simp only [Act.put, List.setIfInBounds_toArray, List.set_cons_zero, List.set_cons_succ]
             refine wpAnyH_ready (rs := [8]) (by kernel_rfl) (by simp) ?_
             refine AllReadyH.cons (rfl : _ = some (Oper.mk _ _ _ _ _ _)) (fun K hKK => ?_) AllReadyH.nil
             rw [if_pos (by rfl)]
             go_simp
             refine (HM1.lay _ q1 zs[t].extent _ _ hq1.out hO1.rd (by rw [hqq.out]; exact hfit) (by have := HNN.out; omega) (by have := okt.ext; omega)).mono ?_
             rintro e u2 ⟨rfl, img', hi', HM2, hg2⟩
             have hlt2 := World.block_lt_of_cell? _ _ kc1
             have kc2 := (World.cell?_of_block (w := u1) (a := ⟨wr.heap.size, 11, none⟩) (hg2.block _ hlt2 (by simp; omega))).trans kc1
             go_wp2_with fail
             refine hKK.out _ _ (by exact kc2) (fun hHeld' => ?_)
             clear hKK K hHeld
             have hHeld := hHeld'
             clear hHeld'
             try simp only [Act.put, List.setIfInBounds_toArray, List.set_cons_zero, List.set_cons_succ]
             refine wpAnyH_done (by kernel_rfl) ?_ _
             go_wp2_with fail
             go_roundw
             case rel => exact ⟨t + 1, img', hlt, by simp, HM2, by unfold Hid; rw [nodeLaysR_succ, <- List.append_assoc, putAll_snoc, <- hIm.out, hi'.out, nodeAt_ns zs t htz, hct]⟩
             case measure => simp [intOf]; omega
           | false =>
             have hct : contentR rock nx (XNode.ns zs) t = zs[t].f.data.data.toList := by
              unfold contentR; rw [if_neg]
              . rw [nodeAt_ns zs t htz]
              . show ¬ (nodeAt (XNode.ns zs) t).f.dir = true; rw [nodeAt_ns zs t htz, hdir]; simp
             have hdl2 : zs[t].f.data.data.toList.length = zs[t].f.data.size := by rw [Array.length_toList]; rfl
             have hcl : clenR rock (XNode.ns zs) t = zs[t].f.data.size := by rw [<- contentR_len rock nx, hct, hdl2]
             have hfit := HFIT t htz
             rw [hcl] at hfit
             have hds := okt.data
             have hex := okt.ext
             have HDL := Lib.hid hdl2
             clear hdl2
             go_wp2_with (first
              | (go_at_call 34; refine (HM1.lay _ zs[t].f.data.size zs[t].extent _ _ HDL.out hO1.rd hfit (by have := HNN.out; omega) (by omega)).mono ?_; rintro e u2 ⟨rfl, img', hi', HM2, hg2⟩)
              | (refine atConvert 9 27 ?_; refine asList rfl fun KK hKK => ?_; refine wp_convFb (.tmp 212) rfl zs[t].f.data zs[t].f.data.size rfl (by omega) rfl ?_; intro b1 c1 u1 hO1 hb1; refine hKK _ _ ?_; clear hKK KK; have HM1 := IM.later (hM.later ((Below.refl _ _).alloc (Nat.le_refl _) _)) hb1)
              | (refine atLoad 64 ?_; refine wpList_loadNode rfl _ rfl rfl hM.is.nodes.cells htz ?_)
              | (refine atStore 64 ?_; refine wpList_storeNew rfl 64 _ _ rfl _ _ _ _ rfl rfl (by exact info64) (by rfl) (by rfl) ?_))
             go_roundw
             case rel => exact ⟨t + 1, img', hlt, by simp, HM2, by unfold Hid; rw [nodeLaysR_succ, <- List.append_assoc, putAll_snoc, <- hIm.out, hi'.out, nodeAt_ns zs t htz, hct]⟩
             case measure => simp [intOf]; omega
         . have hte : t = xs.length := by omega
           subst hte
           go_wp2_with fail
           clear hlt ht
           have HIM := Lib.hid hIm
           clear hIm
           have HM9 := hM
           clear hM
           have hAF : (rock = true -> nx * 2048 + zs[0].place + 157 <= N) /\ ∀ (t : Nat) (h : t < zs.length), 0 < t -> rock = true -> zs[t].more ≠ [] -> nx * 2048 + zs[t].place + zs[t].more.length <= N := by
            have hk : ∀ t (h : t < zs.length), zs[t].more = (nodeAt (XNode.ns xs) t).more /\ zs[t].place = (nodeAt (XNode.ns xs) t).place := by
             intro t h
             have h1 := num_keep hD.num t
             obtain ⟨e, s, h2⟩ := HLK.out.node t
             rw [nodeAt_ns zs t h] at h2
             have h3 : zs[t].more = (nodeAt (XNode.ns ys) t).more := by show zs[t].toNode.more = _; rw [h2]
             have h4 : zs[t].place = (nodeAt (XNode.ns ys) t).place := by show zs[t].toNode.place = _; rw [h2]
             rw [h3, h4]; exact h1
            have hbl := blocks_le ab
            have hN2 : (nx + blocks ab) * 2048 <= nx' * 2048 := Nat.mul_le_mul_right _ hlo.2
            have hNN := HNN.out
            constructor
            . intro hr
              have h1 := (HAR.out hr).er
              have h2 := (hk 0 hz0).2
              omega
            . intro t h h0 hr hm
              have h1 := hk t h
              have h2 := area_fit (HAR.out hr) t h0 (by have := HI.out.ok.1; simp only [XNode.ns, List.length_map]; omega) (by rw [<- h1.1]; exact hm)
              rw [<- h1.1, <- h1.2] at h2
              omega
           have HAF := Lib.hid hAF
           clear hAF
           have hI9 : Hid (img = putAll (zeros N) (D4 ++ nodeLaysR rock (XNode.ns zs) nx xs.length ++ areaLays rock (XNode.ns zs) nx 0)) := by unfold Hid; rw [show areaLays rock (XNode.ns zs) nx 0 = [] from rfl, List.append_nil]; exact HIM.out
           go_loopw [24, 25, 218] (fun _ _ cv wr => ∃ (t : Nat) (img : List UInt8), t <= xs.length /\ cv = .int .i64 t /\ IM rock w wr g c xs.length wx.heap.size co A2 zs ds (O + 1) O N img /\ Hid (img = putAll (zeros N) (D4 ++ nodeLaysR rock (XNode.ns zs) nx xs.length ++ areaLays rock (XNode.ns zs) nx t))) (fun _ _ cv _ => xs.length - (intOf cv).toNat)
           case atStart => exact ⟨0, img, by omega, rfl, HM9, hI9⟩
           case round =>
            clear HM9 hI9 HIM
            obtain ⟨t, img, ht, rfl, hM, hIm⟩ := hrel
            by_cases hlt : t < xs.length
            . have htz : t < zs.length := by rw [HI.out.ok.1]; exact hlt
              have okt := HI.out.ok.2 _ (List.getElem_mem htz)
              cases rock with
              | false =>
                have hm0 : zs[t].more = [] := (okt.nr rfl).2
                have hm1 : zs[t].more.length = 0 := by rw [hm0]; rfl
                have hal : areaLay false (XNode.ns zs) nx t = [] := by unfold areaLay; rw [if_neg (by simp), nodeAt_ns zs t htz, if_pos hm0]
                go_wp2_with (first
                 | (refine atLoad 64 ?_; refine wpList_loadNode rfl _ rfl rfl hM.is.nodes.cells htz ?_)
                 | (refine atStore 64 ?_; refine wpList_storeNew rfl 64 _ _ rfl _ _ _ _ rfl rfl (by exact info64) (by rfl) (by rfl) ?_))
                all_goals
                 go_roundw
                 case rel => exact ⟨t + 1, img, hlt, by first | (simp; done) | (simp; omega), hM.later ((Below.refl _ _).alloc (Nat.le_refl _) _), by unfold Hid; rw [areaLays_succ, hal, List.append_nil]; exact hIm.out⟩
                 case measure => simp [intOf]; omega
              | true =>
                by_cases h0 : t = 0
                . subst h0
                  obtain ⟨off, hoff⟩ : ∃ off, nx * 2048 + zs[0].place = off := ⟨_, rfl⟩
                  have hfo := HAF.out.1 rfl
                  have hpb := okt.more.2
                  have hNb := HNN.out
                  rw [hoff] at hfo
                  go_wp2_with (first
                   | (refine atLoad 64 ?_; refine wpList_loadNode rfl _ rfl rfl hM.is.nodes.cells htz ?_)
                   | (refine atStore 64 ?_; refine wpList_storeNew rfl 64 _ _ rfl _ _ _ _ rfl rfl (by exact info64) (by rfl) (by rfl) ?_))
                  have hMx := hM.later ((Below.refl wr.heap.size wr).alloc (Nat.le_refl _) (.cells zs[0].cells.toArray 64))
                  have hOz : O < wr.heap.size := Nat.lt_trans hM.lt.2 hM.vlt
                  have hKc : ∀ (cs : List Value) k v, cs[k]? = some v -> (wr.alloc (.cells cs.toArray 64)).cell? ⟨wr.heap.size, k, none⟩ = some v := by
                   intro cs k v hk
                   have := rangeAt_alloc wr cs 64 k v hk
                   rwa [Nat.zero_add] at this
                  have z0 : IntKind.i64.wrap (nx : Int) = (nx : Int) := wrap_int nx (by omega)
                  have z4 : IntKind.i64.wrap (zs[0].place : Int) = (zs[0].place : Int) := wrap_int _ (by omega)
                  have z1 : IntKind.i64.wrap ((nx : Int) * 2048) = (nx : Int) * 2048 := wrap_int (nx * 2048) (by omega)
                  have z2 : IntKind.i64.wrap ((nx : Int) * 2048 + (zs[0].place : Int)) = (off : Int) := by rw [show (nx : Int) * 2048 + (zs[0].place : Int) = ((off : Nat) : Int) by omega]; exact wrap_int off (by omega)
                  have z3 : (nx : Int) * 2048 + (zs[0].place : Int) = (off : Int) := by omega
                  have z5 : IntKind.i64.wrap (off : Int) = (off : Int) := wrap_int off (by omega)
                  have e1 : off <= N := by omega
                  have e2 : ¬ (N = off) := by omega
                  refine wp_region_held_drew (S := fun W => W.cell? ⟨wr.heap.size, 15, none⟩ = some (.int .u32 zs[0].place) /\ W.cell? ⟨O + 1, 0, none⟩ = some (.slice (some ⟨O, 0, none⟩) N N) /\ W.cell? ⟨wr.heap.size, 14, none⟩ = some (.slice zs[0].ma zs[0].more.length zs[0].mc)) (by kernel_rfl) ⟨hKc _ 15 _ rfl, hMx.cell, hKc _ 14 _ rfl⟩ (fun hHeld => ?_)
                  refine wpAnyH_take (i := 0) (v := .slice (some ⟨O, 0, none⟩) N N) (rfl : _ = some (Oper.mk _ _ _ _ _ _)) (by kernel_rfl) (by kernel_rfl) (by kernel_rfl) (fun _ _ _ h => h) (Or.inl ⟨by rfl, fun W hW => ?_⟩) (by assumption) ?_
                  . obtain ⟨hc1, hc2, hc3⟩ := hW; first | (go_simp; done) | (simp [execOp, hc1, hc2, hc3]; done) | (go_simp; simp only [z0, z1, z2, z3, z4]; done) | (simp [execOp, z0, z1, z2, z3, z4]; done) | (go_simp; first | exact z2 | exact z5) | (go_simp; simp only [if_pos e1, if_neg e2]; done)
                  try simp only [Act.put, List.setIfInBounds_toArray, List.set_cons_zero, List.set_cons_succ]
                  refine wpAnyH_take (i := 1) (v := .int .u32 nx) (rfl : _ = some (Oper.mk _ _ _ _ _ _)) (by kernel_rfl) (by kernel_rfl) (by kernel_rfl) (fun _ _ _ h => h) (Or.inl ⟨by rfl, fun W hW => ?_⟩) (by assumption) ?_
                  . obtain ⟨hc1, hc2, hc3⟩ := hW; first | (go_simp; done) | (simp [execOp, hc1, hc2, hc3]; done) | (go_simp; simp only [z0, z1, z2, z3, z4]; done) | (simp [execOp, z0, z1, z2, z3, z4]; done) | (go_simp; first | exact z2 | exact z5) | (go_simp; simp only [if_pos e1, if_neg e2]; done)
                  try simp only [Act.put, List.setIfInBounds_toArray, List.set_cons_zero, List.set_cons_succ]
                  refine wpAnyH_take (i := 2) (v := .int .i64 nx) (rfl : _ = some (Oper.mk _ _ _ _ _ _)) (by kernel_rfl) (by kernel_rfl) (by kernel_rfl) (fun _ _ _ h => h) (Or.inl ⟨by rfl, fun W hW => ?_⟩) (by assumption) ?_
                  . obtain ⟨hc1, hc2, hc3⟩ := hW; first | (go_simp; done) | (simp [execOp, hc1, hc2, hc3]; done) | (go_simp; simp only [z0, z1, z2, z3, z4]; done) | (simp [execOp, z0, z1, z2, z3, z4]; done) | (go_simp; first | exact z2 | exact z5) | (go_simp; simp only [if_pos e1, if_neg e2]; done)
                  try simp only [Act.put, List.setIfInBounds_toArray, List.set_cons_zero, List.set_cons_succ]
                  refine wpAnyH_take (i := 3) (v := .int .i64 ((nx : Int) * 2048)) (rfl : _ = some (Oper.mk _ _ _ _ _ _)) (by kernel_rfl) (by kernel_rfl) (by kernel_rfl) (fun _ _ _ h => h) (Or.inl ⟨by rfl, fun W hW => ?_⟩) (by assumption) ?_
                  . obtain ⟨hc1, hc2, hc3⟩ := hW; first | (go_simp; done) | (simp [execOp, hc1, hc2, hc3]; done) | (go_simp; simp only [z0, z1, z2, z3, z4]; done) | (simp [execOp, z0, z1, z2, z3, z4]; done) | (go_simp; first | exact z2 | exact z5) | (go_simp; simp only [if_pos e1, if_neg e2]; done)
                  try simp only [Act.put, List.setIfInBounds_toArray, List.set_cons_zero, List.set_cons_succ]
                  refine wpAnyH_take (i := 4) (v := .pointer (some ⟨wr.heap.size, 15, none⟩)) (rfl : _ = some (Oper.mk _ _ _ _ _ _)) (by kernel_rfl) (by kernel_rfl) (by kernel_rfl) (fun _ _ _ h => h) (Or.inl ⟨by rfl, fun W hW => ?_⟩) (by assumption) ?_
                  . obtain ⟨hc1, hc2, hc3⟩ := hW; first | (go_simp; done) | (simp [execOp, hc1, hc2, hc3]; done) | (go_simp; simp only [z0, z1, z2, z3, z4]; done) | (simp [execOp, z0, z1, z2, z3, z4]; done) | (go_simp; first | exact z2 | exact z5) | (go_simp; simp only [if_pos e1, if_neg e2]; done)
                  try simp only [Act.put, List.setIfInBounds_toArray, List.set_cons_zero, List.set_cons_succ]
                  refine wpAnyH_take (i := 5) (v := .int .u32 zs[0].place) (rfl : _ = some (Oper.mk _ _ _ _ _ _)) (by kernel_rfl) (by kernel_rfl) (by kernel_rfl) (fun _ _ _ h => h) (Or.inl ⟨by rfl, fun W hW => ?_⟩) (by assumption) ?_
                  . obtain ⟨hc1, hc2, hc3⟩ := hW; first | (go_simp; done) | (simp [execOp, hc1, hc2, hc3]; done) | (go_simp; simp only [z0, z1, z2, z3, z4]; done) | (simp [execOp, z0, z1, z2, z3, z4]; done) | (go_simp; first | exact z2 | exact z5) | (go_simp; simp only [if_pos e1, if_neg e2]; done)
                  try simp only [Act.put, List.setIfInBounds_toArray, List.set_cons_zero, List.set_cons_succ]
                  refine wpAnyH_take (i := 6) (v := .int .i64 zs[0].place) (rfl : _ = some (Oper.mk _ _ _ _ _ _)) (by kernel_rfl) (by kernel_rfl) (by kernel_rfl) (fun _ _ _ h => h) (Or.inl ⟨by rfl, fun W hW => ?_⟩) (by assumption) ?_
                  . obtain ⟨hc1, hc2, hc3⟩ := hW; first | (go_simp; done) | (simp [execOp, hc1, hc2, hc3]; done) | (go_simp; simp only [z0, z1, z2, z3, z4]; done) | (simp [execOp, z0, z1, z2, z3, z4]; done) | (go_simp; first | exact z2 | exact z5) | (go_simp; simp only [if_pos e1, if_neg e2]; done)
                  try simp only [Act.put, List.setIfInBounds_toArray, List.set_cons_zero, List.set_cons_succ]
                  refine wpAnyH_take (i := 7) (v := .int .i64 (off : Nat)) (rfl : _ = some (Oper.mk _ _ _ _ _ _)) (by kernel_rfl) (by kernel_rfl) (by kernel_rfl) (fun _ _ _ h => h) (Or.inl ⟨by rfl, fun W hW => ?_⟩) (by assumption) ?_
                  . obtain ⟨hc1, hc2, hc3⟩ := hW; first | (go_simp; done) | (simp [execOp, hc1, hc2, hc3]; done) | (go_simp; simp only [z0, z1, z2, z3, z4]; done) | (simp [execOp, z0, z1, z2, z3, z4]; done) | (go_simp; first | exact z2 | exact z5) | (go_simp; simp only [if_pos e1, if_neg e2]; done)
                  try simp only [Act.put, List.setIfInBounds_toArray, List.set_cons_zero, List.set_cons_succ]
                  refine wpAnyH_take (i := 8) (v := .slice (some ⟨O, off, none⟩) (N - off) (N - off)) (rfl : _ = some (Oper.mk _ _ _ _ _ _)) (by kernel_rfl) (by kernel_rfl) (by kernel_rfl) (fun _ _ _ h => h) (Or.inl ⟨by rfl, fun W hW => ?_⟩) (by assumption) ?_
                  . obtain ⟨hc1, hc2, hc3⟩ := hW; first | (go_simp; done) | (simp [execOp, hc1, hc2, hc3]; done) | (go_simp; simp only [z0, z1, z2, z3, z4]; done) | (simp [execOp, z0, z1, z2, z3, z4]; done) | (go_simp; first | exact z2 | exact z5) | (go_simp; simp only [if_pos e1, if_neg e2]; done)
                  try simp only [Act.put, List.setIfInBounds_toArray, List.set_cons_zero, List.set_cons_succ]
                  refine wpAnyH_ready (rs := [9]) (by kernel_rfl) (by simp) ?_
                  refine AllReadyH.cons (rfl : _ = some (Oper.mk _ _ _ _ _ _)) (fun K hKK => ?_) AllReadyH.nil
                  rw [if_pos (by rfl)]
                  go_simp
                  refine (rockER_any _).mono ?_
                  rintro e u1 ⟨⟨v1, rfl, ho1⟩, hb1⟩
                  have HM1 := hMx.later ((Below.refl _ _).drew.trans hb1)
                  refine hKK.out _ _ ⟨(hb1.cell (p := ⟨wr.heap.size, 15, none⟩) (by simp)).trans hHeld.1, HM1.cell, (hb1.cell (p := ⟨wr.heap.size, 14, none⟩) (by simp)).trans hHeld.2.2⟩ (fun hHeld' => ?_)
                  clear hKK K hHeld
                  have hHeld := hHeld'
                  clear hHeld'
                  try simp only [Act.put, List.setIfInBounds_toArray, List.set_cons_zero, List.set_cons_succ]
                  refine wpAnyH_ready (rs := [10]) (by kernel_rfl) (by simp) ?_
                  refine AllReadyH.cons (rfl : _ = some (Oper.mk _ _ _ _ _ _)) (fun K hKK => ?_) AllReadyH.nil
                  rw [if_pos (by rfl)]
                  refine wp_copyIM (.tmp 236) (.tmp 237) rfl HM1 _ off (N - off) (N - off) 157 v1 erB rfl erB_len.symm (by omega) (by omega) rfl ho1.rd ?_
                  intro u2 img' hi' HM2 hg2
                  refine hKK.out _ _ ⟨?_, HM2.cell, ?_⟩ (fun hHeld' => ?_)
                  . exact (World.cell?_of_block (w := u1) (a := ⟨wr.heap.size, 15, none⟩) (hg2.block _ (World.block_lt_of_cell? _ _ hHeld.1) (by simp; omega))).trans hHeld.1
                  . exact (World.cell?_of_block (w := u1) (a := ⟨wr.heap.size, 14, none⟩) (hg2.block _ (World.block_lt_of_cell? _ _ hHeld.2.2) (by simp; omega))).trans hHeld.2.2
                  clear hKK K hHeld hHeld'
                  try simp only [Act.put, List.setIfInBounds_toArray, List.set_cons_zero, List.set_cons_succ]
                  refine wpAnyH_done (by kernel_rfl) ?_ _
                  go_wp2_with fail
                  go_roundw
                  case rel => exact ⟨1, img', hlt, by simp, HM2, by unfold Hid; rw [areaLays_succ, show areaLay true (XNode.ns zs) nx 0 = [(off, erB)] by unfold areaLay; rw [if_pos ⟨rfl, rfl⟩, nodeAt_ns zs 0 htz, <- hoff], <- List.append_assoc, putAll_snoc, <- hIm.out]; exact hi'.out⟩
                  case measure => simp [intOf]; omega
                . have h0p : 0 < t := by omega
                  by_cases hm0 : zs[t].more = []
                  . have hm1 : zs[t].more.length = 0 := by rw [hm0]; rfl
                    have hal : areaLay true (XNode.ns zs) nx t = [] := by unfold areaLay; rw [if_neg (by simp [h0]), nodeAt_ns zs t htz, if_pos hm0]
                    go_wp2_with (first
                     | (refine atLoad 64 ?_; refine wpList_loadNode rfl _ rfl rfl hM.is.nodes.cells htz ?_)
                     | (refine atStore 64 ?_; refine wpList_storeNew rfl 64 _ _ rfl _ _ _ _ rfl rfl (by exact info64) (by rfl) (by rfl) ?_))
                    all_goals
                     go_roundw
                     case rel => exact ⟨t + 1, img, hlt, by first | (simp; done) | (simp; omega), hM.later ((Below.refl _ _).alloc (Nat.le_refl _) _), by unfold Hid; rw [areaLays_succ, hal, List.append_nil]; exact hIm.out⟩
                     case measure => simp [intOf]; omega
                  . have hm1 : 0 < zs[t].more.length := List.length_pos_iff.2 hm0
                    obtain ⟨off, hoff⟩ : ∃ off, nx * 2048 + zs[t].place = off := ⟨_, rfl⟩
                    have hfo := HAF.out.2 t htz h0p rfl hm0
                    have hpb := okt.more
                    have hNb := HNN.out
                    rw [hoff] at hfo
                    have hal : areaLay true (XNode.ns zs) nx t = [(off, zs[t].more)] := by unfold areaLay; rw [if_neg (by simp [h0]), nodeAt_ns zs t htz, if_neg hm0, hoff]
                    have hrm := Lib.hid ((((hM.later ((Below.refl wr.heap.size wr).alloc (Nat.le_refl _) (.cells zs[t].cells.toArray 64))).later (Below.refl _ _).drew).is.nodes.more _ (List.getElem_mem htz)).rd)
                    go_wp2_with (first
                     | (refine atLoad 64 ?_; refine wpList_loadNode rfl _ rfl rfl hM.is.nodes.cells htz ?_)
                     | (refine atStore 64 ?_; refine wpList_storeNew rfl 64 _ _ rfl _ _ _ _ rfl rfl (by exact info64) (by rfl) (by rfl) ?_))
                    have hMx := hM.later ((Below.refl wr.heap.size wr).alloc (Nat.le_refl _) (.cells zs[t].cells.toArray 64))
                    have hOz : O < wr.heap.size := Nat.lt_trans hM.lt.2 hM.vlt
                    have hKc : ∀ (cs : List Value) k v, cs[k]? = some v -> (wr.alloc (.cells cs.toArray 64)).cell? ⟨wr.heap.size, k, none⟩ = some v := by
                     intro cs k v hk
                     have := rangeAt_alloc wr cs 64 k v hk
                     rwa [Nat.zero_add] at this
                    have z0 : IntKind.i64.wrap (nx : Int) = (nx : Int) := wrap_int nx (by omega)
                    have z4 : IntKind.i64.wrap (zs[t].place : Int) = (zs[t].place : Int) := wrap_int _ (by omega)
                    have z1 : IntKind.i64.wrap ((nx : Int) * 2048) = (nx : Int) * 2048 := wrap_int (nx * 2048) (by omega)
                    have z2 : IntKind.i64.wrap ((nx : Int) * 2048 + (zs[t].place : Int)) = (off : Int) := by rw [show (nx : Int) * 2048 + (zs[t].place : Int) = ((off : Nat) : Int) by omega]; exact wrap_int off (by omega)
                    have z3 : (nx : Int) * 2048 + (zs[t].place : Int) = (off : Int) := by omega
                    have z5 : IntKind.i64.wrap (off : Int) = (off : Int) := wrap_int off (by omega)
                    have e1 : off <= N := by omega
                    have e2 : ¬ (N = off) := by omega
                    refine wp_region_held_drew (S := fun W => W.cell? ⟨wr.heap.size, 15, none⟩ = some (.int .u32 zs[t].place) /\ W.cell? ⟨O + 1, 0, none⟩ = some (.slice (some ⟨O, 0, none⟩) N N) /\ W.cell? ⟨wr.heap.size, 14, none⟩ = some (.slice zs[t].ma zs[t].more.length zs[t].mc)) (by kernel_rfl) ⟨hKc _ 15 _ rfl, hMx.cell, hKc _ 14 _ rfl⟩ (fun hHeld => ?_)
                    refine wpAnyH_take (i := 0) (v := .slice (some ⟨O, 0, none⟩) N N) (rfl : _ = some (Oper.mk _ _ _ _ _ _)) (by kernel_rfl) (by kernel_rfl) (by kernel_rfl) (fun _ _ _ h => h) (Or.inl ⟨by rfl, fun W hW => ?_⟩) (by assumption) ?_
                    . obtain ⟨hc1, hc2, hc3⟩ := hW; first | (go_simp; done) | (simp [execOp, hc1, hc2, hc3]; done) | (go_simp; simp only [z0, z1, z2, z3, z4]; done) | (simp [execOp, z0, z1, z2, z3, z4]; done) | (go_simp; first | exact z2 | exact z5) | (go_simp; simp only [if_pos e1, if_neg e2]; done)
                    try simp only [Act.put, List.setIfInBounds_toArray, List.set_cons_zero, List.set_cons_succ]
                    refine wpAnyH_take (i := 1) (v := .int .u32 nx) (rfl : _ = some (Oper.mk _ _ _ _ _ _)) (by kernel_rfl) (by kernel_rfl) (by kernel_rfl) (fun _ _ _ h => h) (Or.inl ⟨by rfl, fun W hW => ?_⟩) (by assumption) ?_
                    . obtain ⟨hc1, hc2, hc3⟩ := hW; first | (go_simp; done) | (simp [execOp, hc1, hc2, hc3]; done) | (go_simp; simp only [z0, z1, z2, z3, z4]; done) | (simp [execOp, z0, z1, z2, z3, z4]; done) | (go_simp; first | exact z2 | exact z5) | (go_simp; simp only [if_pos e1, if_neg e2]; done)
                    try simp only [Act.put, List.setIfInBounds_toArray, List.set_cons_zero, List.set_cons_succ]
                    refine wpAnyH_take (i := 2) (v := .int .i64 nx) (rfl : _ = some (Oper.mk _ _ _ _ _ _)) (by kernel_rfl) (by kernel_rfl) (by kernel_rfl) (fun _ _ _ h => h) (Or.inl ⟨by rfl, fun W hW => ?_⟩) (by assumption) ?_
                    . obtain ⟨hc1, hc2, hc3⟩ := hW; first | (go_simp; done) | (simp [execOp, hc1, hc2, hc3]; done) | (go_simp; simp only [z0, z1, z2, z3, z4]; done) | (simp [execOp, z0, z1, z2, z3, z4]; done) | (go_simp; first | exact z2 | exact z5) | (go_simp; simp only [if_pos e1, if_neg e2]; done)
                    try simp only [Act.put, List.setIfInBounds_toArray, List.set_cons_zero, List.set_cons_succ]
                    refine wpAnyH_take (i := 3) (v := .int .i64 ((nx : Int) * 2048)) (rfl : _ = some (Oper.mk _ _ _ _ _ _)) (by kernel_rfl) (by kernel_rfl) (by kernel_rfl) (fun _ _ _ h => h) (Or.inl ⟨by rfl, fun W hW => ?_⟩) (by assumption) ?_
                    . obtain ⟨hc1, hc2, hc3⟩ := hW; first | (go_simp; done) | (simp [execOp, hc1, hc2, hc3]; done) | (go_simp; simp only [z0, z1, z2, z3, z4]; done) | (simp [execOp, z0, z1, z2, z3, z4]; done) | (go_simp; first | exact z2 | exact z5) | (go_simp; simp only [if_pos e1, if_neg e2]; done)
                    try simp only [Act.put, List.setIfInBounds_toArray, List.set_cons_zero, List.set_cons_succ]
                    refine wpAnyH_take (i := 4) (v := .pointer (some ⟨wr.heap.size, 15, none⟩)) (rfl : _ = some (Oper.mk _ _ _ _ _ _)) (by kernel_rfl) (by kernel_rfl) (by kernel_rfl) (fun _ _ _ h => h) (Or.inl ⟨by rfl, fun W hW => ?_⟩) (by assumption) ?_
                    . obtain ⟨hc1, hc2, hc3⟩ := hW; first | (go_simp; done) | (simp [execOp, hc1, hc2, hc3]; done) | (go_simp; simp only [z0, z1, z2, z3, z4]; done) | (simp [execOp, z0, z1, z2, z3, z4]; done) | (go_simp; first | exact z2 | exact z5) | (go_simp; simp only [if_pos e1, if_neg e2]; done)
                    try simp only [Act.put, List.setIfInBounds_toArray, List.set_cons_zero, List.set_cons_succ]
                    refine wpAnyH_take (i := 5) (v := .int .u32 zs[t].place) (rfl : _ = some (Oper.mk _ _ _ _ _ _)) (by kernel_rfl) (by kernel_rfl) (by kernel_rfl) (fun _ _ _ h => h) (Or.inl ⟨by rfl, fun W hW => ?_⟩) (by assumption) ?_
                    . obtain ⟨hc1, hc2, hc3⟩ := hW; first | (go_simp; done) | (simp [execOp, hc1, hc2, hc3]; done) | (go_simp; simp only [z0, z1, z2, z3, z4]; done) | (simp [execOp, z0, z1, z2, z3, z4]; done) | (go_simp; first | exact z2 | exact z5) | (go_simp; simp only [if_pos e1, if_neg e2]; done)
                    try simp only [Act.put, List.setIfInBounds_toArray, List.set_cons_zero, List.set_cons_succ]
                    refine wpAnyH_take (i := 6) (v := .int .i64 zs[t].place) (rfl : _ = some (Oper.mk _ _ _ _ _ _)) (by kernel_rfl) (by kernel_rfl) (by kernel_rfl) (fun _ _ _ h => h) (Or.inl ⟨by rfl, fun W hW => ?_⟩) (by assumption) ?_
                    . obtain ⟨hc1, hc2, hc3⟩ := hW; first | (go_simp; done) | (simp [execOp, hc1, hc2, hc3]; done) | (go_simp; simp only [z0, z1, z2, z3, z4]; done) | (simp [execOp, z0, z1, z2, z3, z4]; done) | (go_simp; first | exact z2 | exact z5) | (go_simp; simp only [if_pos e1, if_neg e2]; done)
                    try simp only [Act.put, List.setIfInBounds_toArray, List.set_cons_zero, List.set_cons_succ]
                    refine wpAnyH_take (i := 7) (v := .int .i64 (off : Nat)) (rfl : _ = some (Oper.mk _ _ _ _ _ _)) (by kernel_rfl) (by kernel_rfl) (by kernel_rfl) (fun _ _ _ h => h) (Or.inl ⟨by rfl, fun W hW => ?_⟩) (by assumption) ?_
                    . obtain ⟨hc1, hc2, hc3⟩ := hW; first | (go_simp; done) | (simp [execOp, hc1, hc2, hc3]; done) | (go_simp; simp only [z0, z1, z2, z3, z4]; done) | (simp [execOp, z0, z1, z2, z3, z4]; done) | (go_simp; first | exact z2 | exact z5) | (go_simp; simp only [if_pos e1, if_neg e2]; done)
                    try simp only [Act.put, List.setIfInBounds_toArray, List.set_cons_zero, List.set_cons_succ]
                    refine wpAnyH_take (i := 8) (v := .slice (some ⟨O, off, none⟩) (N - off) (N - off)) (rfl : _ = some (Oper.mk _ _ _ _ _ _)) (by kernel_rfl) (by kernel_rfl) (by kernel_rfl) (fun _ _ _ h => h) (Or.inl ⟨by rfl, fun W hW => ?_⟩) (by assumption) ?_
                    . obtain ⟨hc1, hc2, hc3⟩ := hW; first | (go_simp; done) | (simp [execOp, hc1, hc2, hc3]; done) | (go_simp; simp only [z0, z1, z2, z3, z4]; done) | (simp [execOp, z0, z1, z2, z3, z4]; done) | (go_simp; first | exact z2 | exact z5) | (go_simp; simp only [if_pos e1, if_neg e2]; done)
                    try simp only [Act.put, List.setIfInBounds_toArray, List.set_cons_zero, List.set_cons_succ]
                    refine wpAnyH_take (i := 9) (v := .pointer (some ⟨wr.heap.size, 14, none⟩)) (rfl : _ = some (Oper.mk _ _ _ _ _ _)) (by kernel_rfl) (by kernel_rfl) (by kernel_rfl) (fun _ _ _ h => h) (Or.inl ⟨by rfl, fun W hW => ?_⟩) (by assumption) ?_
                    . obtain ⟨hc1, hc2, hc3⟩ := hW; first | (go_simp; done) | (simp [execOp, hc1, hc2, hc3]; done) | (go_simp; simp only [z0, z1, z2, z3, z4]; done) | (simp [execOp, z0, z1, z2, z3, z4]; done) | (go_simp; first | exact z2 | exact z5) | (go_simp; simp only [if_pos e1, if_neg e2]; done)
                    try simp only [Act.put, List.setIfInBounds_toArray, List.set_cons_zero, List.set_cons_succ]
                    refine wpAnyH_take (i := 10) (v := .slice zs[t].ma zs[t].more.length zs[t].mc) (rfl : _ = some (Oper.mk _ _ _ _ _ _)) (by kernel_rfl) (by kernel_rfl) (by kernel_rfl) (fun _ _ _ h => h) (Or.inl ⟨by rfl, fun W hW => ?_⟩) (by assumption) ?_
                    . obtain ⟨hc1, hc2, hc3⟩ := hW; first | (go_simp; done) | (simp [execOp, hc1, hc2, hc3]; done) | (go_simp; simp only [z0, z1, z2, z3, z4]; done) | (simp [execOp, z0, z1, z2, z3, z4]; done) | (go_simp; first | exact z2 | exact z5) | (go_simp; simp only [if_pos e1, if_neg e2]; done)
                    try simp only [Act.put, List.setIfInBounds_toArray, List.set_cons_zero, List.set_cons_succ]
                    refine wpAnyH_ready (rs := [11]) (by kernel_rfl) (by simp) ?_
                    refine AllReadyH.cons (rfl : _ = some (Oper.mk _ _ _ _ _ _)) (fun K hKK => ?_) AllReadyH.nil
                    rw [if_pos (by rfl)]
                    refine wp_copyIM (.tmp 251) (.tmp 253) rfl (hMx.later ((Below.refl _ _).drew)) (wr.alloc (.cells zs[t].cells.toArray 64)).drew.heap.size off (N - off) (N - off) zs[t].more.length _ zs[t].more rfl rfl (by omega) (by omega) rfl ?hrdm ?_
                    case hrdm => exact hrm.out
                    intro u2 img' hi' HM2 hg2
                    refine hKK.out _ _ ⟨?_, HM2.cell, ?_⟩ (fun hHeld' => ?_)
                    . exact (World.cell?_of_block (a := ⟨wr.heap.size, 15, none⟩) (hg2.block _ (World.block_lt_of_cell? _ _ hHeld.1) (by simp; omega))).trans hHeld.1
                    . exact (World.cell?_of_block (a := ⟨wr.heap.size, 14, none⟩) (hg2.block _ (World.block_lt_of_cell? _ _ hHeld.2.2) (by simp; omega))).trans hHeld.2.2
                    clear hKK K hHeld hHeld'
                    try simp only [Act.put, List.setIfInBounds_toArray, List.set_cons_zero, List.set_cons_succ]
                    refine wpAnyH_done (by kernel_rfl) ?_ _
                    go_wp2_with fail
                    go_roundw
                    case rel => exact ⟨t + 1, img', hlt, by simp, HM2, by unfold Hid; rw [areaLays_succ, hal, <- List.append_assoc, putAll_snoc, <- hIm.out]; exact hi'.out⟩
                    case measure => simp [intOf]; omega
            . have hte : t = xs.length := by omega
              subst hte
              have hcV := hM.cell
              go_wp2_with fail
              go_ret2
              have e0 : nodeAt (XNode.ns zs) 0 = zs[0].toNode := nodeAt_ns zs 0 hz0
              have hNe := HNN.out
              subst hNe
              refine ⟨hM.is.below, .inl ⟨O, XNode.ns zs, ds, nx, nx', img, rfl, hM.own.lower hM.lt.1, ⟨xo, xs, ys, L, ab, XNode.ns z1, HSH.out, HRL.out, HSIM.out, HOKX.out, hD.num, hD.q, HL.out.symm, hE1.out, hE.out, ?_⟩, fun h => (HFT.out h).2⟩⟩
              rw [hIm.out, HD4.out]
              unfold imageR laysR
              rw [hP1.out, HB.out, e0, show (XNode.ns zs).length = xs.length by simp [XNode.ns]; exact HI.out.ok.1]
def Laid (ns : List Node) (vol : List UInt8) (ks : List Node) (ds : List Nat) (next : Nat) (img : List UInt8) : Prop :=
 ∃ xs ys : List XNode, ∃ L : Nat, Shuf ns (XNode.ns xs) /\ OkXs false xs.length xs /\ Num xs ys ds /\ BQ (XNode.ns xs) ds ds.length 0 /\ L = (pathsL (XNode.ns ys) true ds).length /\
  ext (XNode.ns ys) (18 + blocks L + blocks L) (ds ++ filesTo (XNode.ns ys) xs.length) = (ks, next) /\
  img = imageOf ks next (pvdB vol (isoRec [0] (nodeAt ks 0).extent (nodeAt ks 0).size (nodeAt ks 0).f.time true []) next L 18 (18 + blocks L)) term7 (pathsL ks true ds) (pathsL ks false ds)
theorem ext_extC (n0 ns : List Node) (nx : Nat) (l : List Nat) (h : Like n0 ns) : extC (clenR false n0) ns nx l = ext ns nx l := by
 induction l generalizing ns nx with
 | nil => rfl
 | cons i l ih =>
   have e : clenR false n0 i = clen ns i := (h.clen i).symm
   simp only [ext, extC]
   rw [e]
   exact ih _ _ (h.trans (Like.setExt ns i nx _))
theorem areaLays_none (ks : List Node) (nx t : Nat) (h : ∀ i, i < t -> (nodeAt ks i).more = []) : areaLays false ks nx t = [] := by
 unfold areaLays
 rw [List.flatMap_eq_nil_iff]
 intro i hi
 unfold areaLay
 rw [if_neg (by simp), if_pos (h i (List.mem_range.1 hi))]
theorem imageR_false (ks : List Node) (nx next : Nat) (pvd term pl pb : List UInt8) (h : ∀ i, i < ks.length -> (nodeAt ks i).more = []) : imageR false ks nx next pvd term pl pb = imageOf ks next pvd term pl pb := by
 unfold imageR imageOf laysR
 rw [areaLays_none _ _ _ h, List.append_nil, layAll_put]
 congr 1
 unfold laysOf nodeLaysR
 simp only [List.map_cons, List.map_map]
 rfl
theorem laid_of {ns ks : List Node} {vol img : List UInt8} {ds : List Nat} {area next : Nat} (h : LaidR false ns vol ks ds area next img) : Laid ns vol ks ds next img := by
 obtain ⟨xo, xs, ys, L, ab, m1, h1, h2, _, h4, h5, h6, h7, h8, h9, h10⟩ := h
 obtain ⟨rfl, rfl⟩ := h2.2 rfl
 have hl1 : Like (XNode.ns ys) m1 := by have := extC_like (clenR false (XNode.ns ys)) (XNode.ns ys) (18 + blocks L + blocks L) ds; rw [h8] at this; exact this
 have hl2 : Like m1 ks := by have := extC_like (clenR false (XNode.ns ys)) m1 (area + blocks 0) (filesTo (XNode.ns ys) xs.length); rw [h9] at this; exact this
 have hl := hl1.trans hl2
 refine ⟨xs, ys, L, h1, h4, h5, h6, h7, ?_, ?_⟩
 . rw [<- ext_extC (XNode.ns ys) _ _ _ (Like.refl _), extC_append, h8]
   exact h9
 . rw [h10, imageR_false]
   intro i hi
   rw [hl.more, (num_keep h5 i).1]
   have hi2 : i < xs.length := by rw [hl.len] at hi; simpa [XNode.ns, h5.1] using hi
   rw [nodeAt_ns xs i hi2]
   exact ((h4.2 _ (List.getElem_mem hi2)).nr rfl).2
theorem isoImage_any (cap : Nat) (A : Option Addr) (fs : List File) (ns : List Node) (vol : ByteArray) (w : World) (hl : fs.length <= 60) (hns : fs.length <= cap) (hA : FilesR w w.heap.size A fs) (hf : ∀ f ∈ fs, FileOk f) (hv : vol.size <= 32) (hm : addFiles false [rootNode] fs = some ns) :
 Calls Tryz.prog 11 #[.slice A fs.length cap, .string vol, .bool false] w fun e w' => ∃ O ks ds next img, e = .returned (.tuple #[.slice (some ⟨O, 0, none⟩) (next * 2048) (next * 2048), .bool true]) /\ Own w' w.heap.size (.slice (some ⟨O, 0, none⟩) (next * 2048) (next * 2048)) img /\ Below w.heap.size w w' /\ Laid ns vol.data.toList ks ds next img := by
 refine (isoImageR_any false cap A fs ns vol w hl hns hA hf hv hm (fun h => by cases h)).mono ?_
 rintro e w' ⟨hb, (⟨O, ks, ds, area, next, img, rfl, hO, hL, _⟩ | ⟨h, _⟩)⟩
 . exact ⟨O, ks, ds, next, img, rfl, hO, hb, laid_of hL⟩
 . cases h
end Go.Proofs.YtilgpaeeleknhaaGreatDoor
