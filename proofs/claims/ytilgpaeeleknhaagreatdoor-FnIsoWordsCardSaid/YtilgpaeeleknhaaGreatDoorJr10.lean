/- A part of the proof of laws.FnIsoRock (see the last text). -/
import Derived.Test.YtilgpaeeleknhaaGreatDoorJr09
import Derived.Laws.IdiomStrings
import Derived.Laws.BytesArg
import Derived.Lib.ConvBytes
set_option linter.unusedSimpArgs false
set_option linter.unusedVariables false
set_option maxRecDepth 1000000
set_option maxHeartbeats 8000000
namespace Go.Proofs.YtilgpaeeleknhaaGreatDoor
open Go Go.RowKit
theorem wp_toStr_of {P : Program} {o : Oper} {a : Act} {w : World} {K : Act -> World -> Prop} {Q : Exit -> Act -> World -> Prop} (h27 : P.underlying 27 = some (.slice 5)) (h5 : P.underlying 5 = some (.int .u8)) (h9 : P.underlying 9 = some .string)
 (x : Operand) (ho : o.op = .convert 27 9 x) (ok : Nat -> Prop) (v : Value) (l : List UInt8)
 (hx : a.eval x = v) (hr : RdO w ok v l) (hK : K (a.put o.dst (.string (ofL l))) w) : Oper.wp P o a w K Q := by
 obtain ⟨A, c, rfl, hA, hc⟩ := hr
 have hrun : (convert 27 9 (.slice A l.length c)).run P w = .ok (.string (ofL l)) w := by
  cases A with
  | some ad =>
    exact run_convert_bytes_back (P := P) w 27 9 5 ad c l h27 h5 h9 (fun j hj => by
     obtain ⟨ad', e, h⟩ := hc j _ (BVs_get l j hj)
     cases e; exact h)
  | none =>
    have hl : l = [] := by
     cases l with
     | nil => rfl
     | cons b l => obtain ⟨ad', e, _⟩ := hc 0 _ (BVs_get (b :: l) 0 (by simp)); cases e
    subst hl
    exact run_convert_bytes_nil (P := P) w 27 5 h27 h5 _ c 9 h9
 unfold Oper.wp execOp
 simp only [ho, hx, Sem.run_bind, Sem.run_pure, Result.andThen_ok, hrun]
 exact hK
theorem under5 : Tryz.prog.underlying 5 = some (.int .u8) := by kernel_rfl
abbrev wp_toStr {o : Oper} {a : Act} {w : World} {K : Act -> World -> Prop} {Q : Exit -> Act -> World -> Prop} := @wp_toStr_of Tryz.prog o a w K Q Tryz.underlying27 under5 Tryz.underlying9
def decs : Nat -> Nat -> List UInt8
 | _, 0 => []
 | n, k + 1 => decs (n / 10) k ++ [u8 (48 + n % 10)]
theorem decs_length (n k : Nat) : (decs n k).length = k := by
 induction k generalizing n with
 | zero => rfl
 | succ k ih => simp [decs, ih]
theorem decimals_any (n k : Nat) (w : World) (hn : n <= 1000000000) (hk : k <= 1000) :
 Calls Tryz.prog 46 #[.int .i64 n, .int .i64 k] w fun e w' => e = .returned (.string (ofL (decs n k))) /\ Below w.heap.size w w' := by
 go_enter Tryz.func46, Tryz.ntmps46
 go_wp2_with (at_make; go_must (refine asList rfl fun K hK => ?_); go_must (refine go_makeN (w0 := w) (.tmp 7) (.tmp 7) rfl w.heap.size _ _ _ _ k k rfl rfl (by rfl) (by rfl) (by omega) (by omega) (Below.refl _ _) (Nat.le_refl _) ?_); go_must (intro w1 L1 hL1 hl1 ho1 hb1 hs1); go_must (refine hK _ _ ?_); go_must (clear hK K))
 go_loopw [0, 6] (fun v0 i wr => ∃ (j m : Nat) (L : List UInt8), j <= k /\ m <= n /\ v0 = .int .i64 m /\ i = .int .i64 ((j : Int) - 1) /\ Hid (L.length = k) /\ Own wr w.heap.size (.slice (some ⟨w.heap.size, 0, none⟩) k k) L /\ Hid (decs n k = decs m j ++ L.drop j) /\ Below w.heap.size w wr) (fun _ i wr => (intOf i + 1).toNat)
 case atStart => exact ⟨k, n, L1, Nat.le_refl _, Nat.le_refl _, rfl, rfl, hl1, ho1, by have := hl1.out; rw [List.drop_of_length_le (by omega)]; simp [Hid], hb1⟩
 case round =>
  obtain ⟨j, m, L, hj, hm, rfl, rfl, hl, ho, hd, hb⟩ := hrel
  cases j with
  | zero =>
    go_wp2_with (refine atConvert 27 9 ?_; go_must (refine asList rfl fun K hK => ?_); go_must (refine wp_toStr (.tmp 24) rfl _ _ L rfl ho.rd ?_); go_must (refine hK _ _ ?_); go_must (clear hK K))
    go_ret
    refine ⟨by rw [hd.out]; simp [decs], hb⟩
  | succ j =>
    have e1 : ((j + 1 : Nat) : Int) - 1 = j := by omega
    rw [e1]; clear e1
    have ho' : Own wr w.heap.size (.slice (some ⟨w.heap.size, 0, none⟩) L.length k) L := by rw [hl.out]; exact ho
    have hc := ho'.cell j (by rw [hl.out]; omega)
    have hf := ho'.unfrozen j
    have HO := Lib.hid ho'; clear ho' ho
    go_wp2_with fail
    go_roundw
    case rel =>
     have hu : (48 + (m : Int) % 10) = ((u8 (48 + m % 10)).toNat : Int) := by
      have : (u8 (48 + m % 10)).toNat = 48 + m % 10 := by simp only [u8, UInt8.toNat_ofNat']; omega
      rw [this]; omega
     rw [hu]
     have hl' := hl.out
     refine ⟨j, m / 10, L.set j (u8 (48 + m % 10)), by omega, by omega, by simp, rfl, by simp [Hid, hl'], ?_, ?_, ?_⟩
     . have := HO.out.set j (u8 (48 + m % 10))
       rw [List.length_set, hl'] at this
       exact this
     . have := hd.out
       rw [decs] at this
       unfold Hid
       rw [this, List.append_assoc, List.drop_eq_getElem_cons (l := L.set j _) (by simp; omega)]
       simp [List.drop_set]
     . exact hb.setCell (Nat.le_refl _) _
    case measure => simp [intOf]
def IV (n : Nat) : Value := .int .i64 n
structure NodesW (w : World) (B : Nat) (v : Value) (xs : List XNode) : Prop where
 row : w.ownsRow B 64 18 v xs.length (xcells xs)
 kids : ∀ x ∈ xs, w.ownsRow B 3 1 (.slice x.ka x.kids.length x.kc) x.kids.length (x.kids.map IV)
 su : ∀ x ∈ xs, Own w B (.slice x.sa x.su.length x.sc) x.su
 more : ∀ x ∈ xs, Own w B (.slice x.ma x.more.length x.mc) x.more
def Apart (xs : List XNode) : Prop := ∀ i j (hi : i < xs.length) (hj : j < xs.length) a b, i ≠ j -> xs[i].ka = some a -> xs[j].ka = some b -> a.block ≠ b.block
theorem ownsRow_later {w w' : World} {B e s : Nat} {v : Value} {n : Nat} {l : List Value} (h : w.ownsRow B e s v n l) (hb : Below w.heap.size w w') : w'.ownsRow B e s v n l :=
 ⟨h.1, h.2.imp id fun ⟨g, cap, cur, hv, h1, h2, h3⟩ => ⟨g, cap, cur, hv, h1, by
  rw [hb.block g (by exact (World.ownsRow.lt h g (by rw [hv]; rfl)).2)]; exact h2, h3⟩⟩
theorem NodesW.later {w w' : World} {B : Nat} {v : Value} {xs : List XNode} (h : NodesW w B v xs) (hb : Below w.heap.size w w') : NodesW w' B v xs :=
 ⟨ownsRow_later h.row hb, fun x hx => ownsRow_later (h.kids x hx) hb, fun x hx => (h.su x hx).later hb, fun x hx => (h.more x hx).later hb⟩
theorem NodesW.cells {w : World} {B g cap n : Nat} {xs : List XNode} (h : NodesW w B (.slice (some ⟨g, 0, none⟩) n cap) xs) : NodesC w g xs := by
 intro i hi j u hu
 have hj : j < 18 := (List.getElem?_eq_some_iff.1 hu).1
 have := World.ownsRow.cells h.row (g := g) rfl (i * 18 + j) u (by rw [xcells_get xs i hi j hj]; exact hu)
 rwa [Addr.add_mid, Nat.zero_add] at this
def idOf (rock : Bool) (k : Nat) (name : List UInt8) (dir : Bool) : List UInt8 :=
 (if rock then 78 :: decs k 6 else name) ++ (if dir then [] else (if rock then [46] else []) ++ [59, 49])
def rootFile : File := ⟨⟨#[]⟩, true, ⟨#[]⟩, ⟨#[]⟩, 493, 0, 0, 0⟩
def rootNode : Node := ⟨rootFile, ⟨#[]⟩, 0, [], 0, 0, [], [], 0, 0, 0⟩
def newNode (f : File) (id : List UInt8) (p level : Nat) : Node := ⟨f, ofL id, p, [], 0, 0, [], [], 0, 0, level⟩
def stepFile (rock : Bool) (ns : List Node) (f : File) : Option (List Node) :=
 let c := cutLast f.path.data.toList
 let p := placeOf c.1 (ns.map (·.f))
 if h : p < ns.length then
  if c.2 = [] then none else
  some (ns.set p { ns[p] with kids := ns[p].kids ++ [ns.length] } ++ [newNode f (idOf rock ns.length c.2 f.dir) p (ns[p].level + 1)])
 else none
def addFiles (rock : Bool) : List Node -> List File -> Option (List Node)
 | ns, [] => some ns
 | ns, f :: l => (stepFile rock ns f).bind fun ms => addFiles rock ms l
theorem addFiles_snoc (rock : Bool) (l : List File) (f : File) (ns : List Node) : addFiles rock ns (l ++ [f]) = (addFiles rock ns l).bind fun ms => stepFile rock ms f := by
 induction l generalizing ns with
 | nil => simp [addFiles]
 | cons a l ih =>
   simp only [List.cons_append, addFiles]
   cases stepFile rock ns a with
   | none => rfl
   | some ms => exact ih ms
theorem addFiles_append (rock : Bool) (l m : List File) (ns : List Node) : addFiles rock ns (l ++ m) = (addFiles rock ns l).bind fun ms => addFiles rock ms m := by
 induction l generalizing ns with
 | nil => simp [addFiles]
 | cons a l ih =>
   simp only [List.cons_append, addFiles]
   cases stepFile rock ns a with
   | none => rfl
   | some ms => exact ih ms
theorem addFiles_take (rock : Bool) (l : List File) (k : Nat) (h : k < l.length) (ns : List Node) : addFiles rock ns (l.take (k + 1)) = (addFiles rock ns (l.take k)).bind fun ms => stepFile rock ms l[k] := by
 rw [<- List.take_append_getElem h, addFiles_snoc]
theorem addFiles_none (rock : Bool) (l : List File) (k : Nat) (h : k < l.length) (ns ms : List Node) (h1 : addFiles rock ns (l.take k) = some ms) (h2 : stepFile rock ms l[k] = none) : addFiles rock ns l = none := by
 have := addFiles_append rock (l.take (k + 1)) (l.drop (k + 1)) ns
 rw [List.take_append_drop, addFiles_take rock l k h, h1] at this
 rw [this]; simp [h2]
structure Sane (ns : List Node) : Prop where
 kid : ∀ n ∈ ns, ∀ k ∈ n.kids, k < ns.length
 kids : ∀ n ∈ ns, n.kids.length < ns.length
 parent : ∀ n ∈ ns, n.parent < ns.length
 level : ∀ n ∈ ns, n.level < ns.length
theorem Sane.root : Sane [rootNode] := by constructor <;> simp [rootNode]
theorem Sane.step {rock : Bool} {ns ms : List Node} {f : File} (h : Sane ns) (hs : stepFile rock ns f = some ms) : Sane ms := by
 unfold stepFile at hs
 simp only at hs
 split at hs
 case isFalse => cases hs
 case isTrue hp =>
  split at hs
  . cases hs
  . cases hs
    have hm := List.getElem_mem hp
    constructor <;> intro n hn <;> rw [List.mem_append, List.mem_singleton] at hn <;> simp only [List.length_append, List.length_set, List.length_singleton]
    . intro k hk
      rcases hn with hn | rfl
      . rcases List.mem_or_eq_of_mem_set hn with hn | rfl
        . have := h.kid n hn k hk; omega
        . simp only [List.mem_append, List.mem_singleton] at hk
          rcases hk with hk | rfl
          . have := h.kid _ hm k hk; omega
          . omega
      . simp [newNode] at hk
    . rcases hn with hn | rfl
      . rcases List.mem_or_eq_of_mem_set hn with hn | rfl
        . have := h.kids n hn; omega
        . have := h.kids _ hm
          simp only [List.length_append, List.length_singleton]; omega
      . simp [newNode]
    . rcases hn with hn | rfl
      . rcases List.mem_or_eq_of_mem_set hn with hn | rfl
        . have := h.parent n hn; omega
        . have := h.parent _ hm; simp only; omega
      . simp only [newNode]; omega
    . rcases hn with hn | rfl
      . rcases List.mem_or_eq_of_mem_set hn with hn | rfl
        . have := h.level n hn; omega
        . have := h.level _ hm; simp only; omega
      . have := h.level _ hm; simp only [newNode]; omega
theorem addFiles_sane {rock : Bool} {l : List File} {ns ms : List Node} (h : addFiles rock ns l = some ms) (hs : Sane ns) : Sane ms := by
 induction l generalizing ns with
 | nil => cases h; exact hs
 | cons f l ih =>
   simp only [addFiles] at h
   cases hf : stepFile rock ns f with
   | none => rw [hf] at h; cases h
   | some ms' => rw [hf] at h; exact ih h (hs.step hf)
theorem info64z : (Tryz.prog.info? 64).map (fun i => (i.zero.map (·.cells.size), i.size, i.bytes)) = some (some 18, 18, 208) := by kernel_rfl
theorem info3z : (Tryz.prog.info? 3).map (fun i => (i.zero.map (·.cells.size), i.size, i.bytes)) = some (some 1, 1, 8) := by kernel_rfl
theorem info37z : (Tryz.prog.info? 37).map (fun i => (i.zero.map (·.cells.size), i.size, i.bytes)) = some (some 8, 8, 80) := by kernel_rfl
theorem infoz {P : Program} {t s b : Nat} (h : (P.info? t).map (fun i => (i.zero.map (·.cells.size), i.size, i.bytes)) = some (some s, s, b)) : ∃ i z, P.info? t = some i /\ i.zero = some z /\ z.cells.size = s /\ i.size = s /\ i.bytes = b := by
 cases hi : P.info? t with
 | none => rw [hi] at h; simp at h
 | some i =>
   rw [hi] at h
   simp only [Option.map_some, Option.some.injEq, Prod.mk.injEq] at h
   cases hz : i.zero with
   | none => rw [hz] at h; simp at h
   | some z => rw [hz] at h; exact ⟨i, z, rfl, hz, by simpa using h.1, h.2.1, h.2.2⟩
theorem rows_ne {w : World} {B1 B2 e1 e2 s1 s2 n1 n2 : Nat} {v1 v2 : Value} {l1 l2 : List Value} (h1 : w.ownsRow B1 e1 s1 v1 n1 l1) (h2 : w.ownsRow B2 e2 s2 v2 n2 l2) (he : e1 ≠ e2) : v1.ownBlock = none \/ v1.ownBlock ≠ v2.ownBlock := by
 rcases h1.2 with ⟨rfl, _⟩ | ⟨g1, c1, cur1, rfl, _, hg1, _⟩
 . exact .inl rfl
 . refine .inr fun e => ?_
   rcases h2.2 with ⟨rfl, _⟩ | ⟨g2, c2, cur2, rfl, _, hg2, _⟩
   . simp [Value.ownBlock] at e
   . simp only [Value.ownBlock, Option.some.injEq] at e
     subst e
     rw [hg1] at hg2
     simp only [Option.some.injEq, Obj.cells.injEq] at hg2
     exact he hg2.2.1
theorem ownsRow_shape {w : World} {B e s n : Nat} {v : Value} {l : List Value} (h : w.ownsRow B e s v n l) : ∃ A c, v = .slice A n c /\ (0 < n -> ∃ g, A = some ⟨g, 0, none⟩) /\ (∀ a, A = some a -> B <= a.block /\ a.block < w.heap.size) := by
 have hlt := World.ownsRow.lt h
 rcases h.2 with ⟨rfl, h0⟩ | ⟨g, cap, cur, rfl, _⟩
 . exact ⟨none, 0, by rw [h0], by omega, by intro a e; cases e⟩
 . exact ⟨_, _, rfl, fun _ => ⟨g, rfl⟩, by intro a e; cases e; exact hlt g rfl⟩
theorem NodesC_of_row {w : World} {B g n cap : Nat} {xs : List XNode} (h : w.ownsRow B 64 18 (.slice (some ⟨g, 0, none⟩) n cap) n (xcells xs)) (i : Nat) (hi : i < xs.length) (j : Nat) (u : Value) (hu : xs[i].cells[j]? = some u) : w.cell? ⟨g, i * 18 + j, none⟩ = some u := by
 have hj : j < 18 := (List.getElem?_eq_some_iff.1 hu).1
 have := World.ownsRow.cells h (g := g) rfl (i * 18 + j) u (by rw [xcells_get xs i hi j hj]; exact hu)
 rwa [Addr.add_mid, Nat.zero_add] at this
theorem go_appNode {o : Oper} {a : Act} {w0 w wa : World} {K : Act -> World -> Prop} {Q : Exit -> Act -> World -> Prop} (s x : Operand) (ho : o.op = .call { callee := .builtin .append, args := #[s, x], argTypes := #[56, 56] })
 (B N g n cap : Nat) (cells : Array Value) (xs : List XNode) (y : XNode) (hs : a.eval s = .slice (some ⟨g, 0, none⟩) n cap) (hn : n = xs.length) (hN : NodesW w B (.slice (some ⟨g, 0, none⟩) n cap) xs) (hA : Apart xs)
 (hwa : Below w.heap.size w wa) (hwc : wa.heap[w.heap.size]? = some (.cells cells 64)) (hsz : w.heap.size = N) (hx : a.eval x = .slice (some ⟨N, 0, none⟩) 1 1) (hc : cells = y.cells.toArray) (hk : y.kids = [] /\ y.ka = none /\ y.kc = 0) (hsu : y.su = [] /\ y.sa = none /\ y.sc = 0) (hmo : y.more = [] /\ y.ma = none /\ y.mc = 0)
 (hlen : xs.length <= 1000000) (hb : Below B w0 w) (hB : B <= w0.heap.size)
 (h : ∀ g' cap' w', NodesW w' B (.slice (some ⟨g', 0, none⟩) (n + 1) cap') (xs ++ [y]) -> Apart (xs ++ [y]) -> Below B w0 w' -> w.heap.size <= w'.heap.size -> K (a.put o.dst (.slice (some ⟨g', 0, none⟩) (n + 1) cap')) w') :
 Oper.wp Tryz.prog o a wa K Q := by
 obtain ⟨i, z, hi, hz, hzs, hsi, hby⟩ := infoz info64z
 subst hsz; subst hc; subst hn
 have hbl := hwa
 have hN1 := hN.later hbl
 have hB1 : B <= wa.heap.size := Nat.le_trans hB (Nat.le_trans hb.size hbl.size)
 refine wp_append_own (P := Tryz.prog) _ s x 56 ho B 64 i z 18 208 (by kernel_rfl) hi hz hsi hby hzs (by decide) _ _ _ hs hN1.row ⟨w.heap.size, 0, none⟩ 1 1 y.cells hx rfl ?_ ?_ (by unfold maxLen; omega) (by omega) hB1 ?_
 . intro j u hu
   rw [Addr.add_mid, Nat.zero_add]
   have hg := hwc
   simp only [World.cell?, hg]
   simpa using hu
 . intro u hu
   simp only [XNode.cells, List.mem_cons, List.not_mem_nil, or_false] at hu
   rcases hu with rfl | rfl | rfl | rfl | rfl | rfl | rfl | rfl | rfl | rfl | rfl | rfl | rfl | rfl | rfl | rfl | rfl | rfl <;> rfl
 . intro v' w' hrow hgr _
   obtain ⟨A, c, rfl, hAg, _⟩ := ownsRow_shape hrow
   obtain ⟨g', rfl⟩ := hAg (by omega)
   have kp : ∀ {e s n : Nat} {v : Value} {l : List Value}, wa.ownsRow B e s v n l -> e ≠ 64 -> w'.ownsRow B e s v n l := fun hr he => hr.kept hgr (rows_ne hr hN1.row he)
   refine h g' c w' ⟨?_, ?_, ?_, ?_⟩ ?_ ?_ ?_
   . rw [List.length_append, xcells_append]; simpa [xcells] using hrow
   . intro x hx
     rw [List.mem_append, List.mem_singleton] at hx
     rcases hx with hx | rfl
     . exact kp (hN1.kids x hx) (by decide)
     . rw [hk.1, hk.2.1, hk.2.2]; exact World.ownsRow_nil _ _ _ _
   . intro x hx
     rw [List.mem_append, List.mem_singleton] at hx
     rcases hx with hx | rfl
     . exact kp (hN1.su x hx) (by decide)
     . rw [hsu.1, hsu.2.1, hsu.2.2]; exact Own.nil _ _
   . intro x hx
     rw [List.mem_append, List.mem_singleton] at hx
     rcases hx with hx | rfl
     . exact kp (hN1.more x hx) (by decide)
     . rw [hmo.1, hmo.2.1, hmo.2.2]; exact Own.nil _ _
   . intro i j hi hj a b hij ha hb'
     rw [List.getElem_append] at ha hb'
     split at ha
     . split at hb'
       . exact hA i j _ _ a b hij ha hb'
       . simp only [List.getElem_singleton, hk.2.1] at hb'; cases hb'
     . simp only [List.getElem_singleton, hk.2.1] at ha; cases ha
   . exact (hb.trans (hbl.mono (Nat.le_trans hB hb.size))).grown hgr hB1 (fun k hk => by
      simp only [Value.ownBlock, Option.some.injEq] at hk; subst hk
      exact (World.ownsRow.lt hN.row g rfl).1)
   . exact Nat.le_trans hbl.size hgr.size
theorem append_block {P : Program} {w : World} (base : Nat) (t ty e : TypeId) (i : TypeInfo) (z : Value) (size bytes : Nat) (ht : P.underlying t = some (.slice e)) (hi : P.info? e = some i) (hz : i.zero = some z)
 (hsize : i.size = size) (hby : i.bytes = bytes) (v : Value) (n : Nat) (xs : List Value) (hown : w.ownsRow base e size v n xs)
 (a : Addr) (m c : Nat) (news : List Value) (hl : news.length = m * size) (hnews : ∀ j u, news[j]? = some u -> w.cell? (a.add j) = some u) (h1 : ∀ u ∈ news, u.oneCell' = true)
 (h0 : 0 < m) (h63 : n + m <= maxLen) (hbytes : (n + m) * bytes <= 140737488355328) (v' : Value) (w' : World) (hr : (Builtin.append_ #[t, t] ty #[v, .slice (some a) m c]).run P w = .ok v' w') :
 v'.ownBlock = v.ownBlock \/ v'.ownBlock = some w.heap.size := by
 subst hsize; subst hby
 have hml : n + m <= 9223372036854775807 := by simp only [maxLen] at h63; omega
 rcases hown.2 with ⟨rfl, rfl⟩ | ⟨g, cap, cur, rfl, hbg, hg, hnc, hcm, hcs, htake⟩
 . have hr2 := run_append_nil (P := P) w t ty e i z ht hi hz a m c news hl hnews h0 (by omega) (by have hb := hbytes; simp only [Nat.zero_add] at hb; omega)
   rw [hr] at hr2; injection hr2 with h _; subst h; exact .inr rfl
 . by_cases hroom : n + m <= cap
   . have hfit : n * i.size + news.length <= cur.size := by rw [hl, hcs, <- Nat.add_mul]; exact Nat.mul_le_mul_right _ hroom
     have hr2 := run_append_room (P := P) w t ty e i ht hi g n cap cur hg a m c news hl hnews h1 hroom hfit
     rw [hr] at hr2; injection hr2 with h _; subst h; exact .inl rfl
   . have holds : ∀ j u, xs[j]? = some u -> w.cell? ((⟨g, 0, none⟩ : Addr).add j) = some u := hown.cells (g := g) rfl
     have hr2 := run_append_grow (P := P) w t ty e i z ht hi hz ⟨g, 0, none⟩ n cap xs hown.1 holds a m c news hl hnews (by omega) (by omega) (growslice_fits (by omega) hbytes)
     rw [hr] at hr2; injection hr2 with h _; subst h; exact .inr rfl
theorem go_appKid {o : Oper} {a : Act} {w0 w wa : World} {K : Act -> World -> Prop} {Q : Exit -> Act -> World -> Prop} (s x : Operand) (ho : o.op = .call { callee := .builtin .append, args := #[s, x], argTypes := #[62, 62] })
 (B N g n cap p : Nat) (u : Value) (k : Nat) (xs : List XNode) (hn : n = xs.length) (hN : NodesW w B (.slice (some ⟨g, 0, none⟩) n cap) xs) (hA : Apart xs) (hp : p < xs.length)
 (hs : a.eval s = .slice xs[p].ka xs[p].kids.length xs[p].kc)
 (hwa : Below w.heap.size w wa) (hwc : wa.heap[w.heap.size]? = some (.cells #[u] 3)) (hsz : w.heap.size = N) (hx : a.eval x = .slice (some ⟨N, 0, none⟩) 1 1) (hu : u = IV k)
 (hlen : xs[p].kids.length <= 1000000) (hb : Below B w0 w) (hB : B <= w0.heap.size)
 (h : ∀ A c w', w'.cell? ⟨g, p * 18 + 10, none⟩ = some (.slice xs[p].ka xs[p].kids.length xs[p].kc) -> w'.frozen? ⟨g, p * 18 + 10, none⟩ = false ->
   NodesW (w'.setCell ⟨g, p * 18 + 10, none⟩ (.slice A (xs[p].kids.length + 1) c)) B (.slice (some ⟨g, 0, none⟩) n cap) (xs.set p { xs[p] with kids := xs[p].kids ++ [k], ka := A, kc := c }) ->
   Apart (xs.set p { xs[p] with kids := xs[p].kids ++ [k], ka := A, kc := c }) -> Below B w0 (w'.setCell ⟨g, p * 18 + 10, none⟩ (.slice A (xs[p].kids.length + 1) c)) -> w.heap.size <= w'.heap.size ->
   K (a.put o.dst (.slice A (xs[p].kids.length + 1) c)) w') :
 Oper.wp Tryz.prog o a wa K Q := by
 obtain ⟨i, z, hi, hz, hzs, hsi, hby⟩ := infoz info3z
 subst hsz; subst hu; subst hn
 have hbl := hwa
 have hN1 := hN.later hbl
 have hB1 : B <= wa.heap.size := Nat.le_trans hB (Nat.le_trans hb.size hbl.size)
 have hm : xs[p] ∈ xs := List.getElem_mem hp
 have hK := hN1.kids _ hm
 have hnews : ∀ j u, [IV k][j]? = some u -> wa.cell? ((⟨w.heap.size, 0, none⟩ : Addr).add j) = some u := by
  intro j u hu
  rw [Addr.add_mid, Nat.zero_add]
  have hg := hwc
  simp only [World.cell?, hg]
  simpa using hu
 have h1 : ∀ u ∈ [IV k], u.oneCell' = true := by intro u hu; rw [List.mem_singleton] at hu; subst hu; rfl
 obtain ⟨v', w', hr, hrow, hgr, _⟩ := run_append_own (P := Tryz.prog) _ B 62 o.type 3 i z 1 8 (by kernel_rfl) hi hz hsi hby hzs (by decide) _ _ _ hK ⟨w.heap.size, 0, none⟩ 1 1 [IV k] rfl hnews h1 (by unfold maxLen; omega) (by omega) hB1
 have hblk := append_block B 62 o.type 3 i z 1 8 (by kernel_rfl) hi hz hsi hby _ _ _ hK ⟨w.heap.size, 0, none⟩ 1 1 [IV k] rfl hnews h1 (by decide) (by unfold maxLen; omega) (by omega) v' w' hr
 suffices hgoal : K (a.put o.dst v') w' by
  unfold Oper.wp execOp
  simp only [ho, resolve, invoke, builtin, Sem.run_bind, Sem.run_pure, Result.andThen_ok, List.map_toArray, List.map_cons, List.map_nil, hs, hx, hr]
  exact hgoal
 . obtain ⟨A, c, rfl, hAg, hAb⟩ := ownsRow_shape hrow
   obtain ⟨g', rfl⟩ := hAg (by omega)
   have kp : ∀ {e s n : Nat} {v : Value} {l : List Value}, wa.ownsRow B e s v n l -> e ≠ 3 -> w'.ownsRow B e s v n l := fun hr he => hr.kept hgr (rows_ne hr hK he)
   have hrow' := kp hN1.row (by decide)
   have hst := World.ownsRow.stored hrow' (p * 18 + 10) (.slice (some ⟨g', 0, none⟩) (xs[p].kids.length + 1) c)
   have ks : ∀ {e s n : Nat} {v : Value} {l : List Value}, w'.ownsRow B e s v n l -> e ≠ 64 -> (w'.setCell ⟨g, p * 18 + 10, none⟩ (.slice (some ⟨g', 0, none⟩) (xs[p].kids.length + 1) c)).ownsRow B e s v n l := fun hr he => hr.kept hst.2 (rows_ne hr hrow' he)
   have hne : ∀ i (hi : i < xs.length), i ≠ p -> w'.ownsRow B 3 1 (.slice xs[i].ka xs[i].kids.length xs[i].kc) xs[i].kids.length (xs[i].kids.map IV) := by
    intro i hi hip
    refine (hN1.kids _ (List.getElem_mem hi)).kept hgr ?_
    cases hka : xs[i].ka with
    | none => exact .inl rfl
    | some a1 =>
      refine .inr fun e => ?_
      cases hkp : xs[p].ka with
      | none => rw [hkp] at e; simp [Value.ownBlock] at e
      | some a2 =>
        rw [hkp] at e
        simp only [Value.ownBlock, Option.some.injEq] at e
        exact hA i p hi hp a1 a2 hip hka hkp e
   refine h (some ⟨g', 0, none⟩) c w' ?_ (World.ownsRow.frozenAt hrow' _) ⟨?_, ?_, ?_, ?_⟩ ?_ ?_ ?_
   . have := NodesC_of_row hrow' p hp 10 _ rfl
     exact this
   . have := hst.1
     rw [xcells_set xs p hp 10 (by decide) _ { xs[p] with kids := xs[p].kids ++ [k], ka := some ⟨g', 0, none⟩, kc := c } (by simp [XNode.cells])] at this
     rw [List.length_set]; exact this
   . intro x hx
     obtain ⟨i, hi, rfl⟩ := List.getElem_of_mem hx
     rw [List.length_set] at hi
     rw [List.getElem_set]
     split
     . have h9 := ks hrow (by decide)
       have e1 : (xs[p].kids ++ [k]).length = xs[p].kids.length + 1 := by simp
       have e2 : (xs[p].kids ++ [k]).map IV = xs[p].kids.map IV ++ [IV k] := by simp
       rw [<- e2] at h9
       show World.ownsRow _ B 3 1 (.slice (some ⟨g', 0, none⟩) (xs[p].kids ++ [k]).length c) (xs[p].kids ++ [k]).length _
       rw [e1]
       exact h9
     . exact ks (hne i hi (fun e => by simp_all)) (by decide)
   . intro x hx
     rcases List.mem_or_eq_of_mem_set hx with hx | rfl
     . exact ks (kp (hN1.su x hx) (by decide)) (by decide)
     . have := ks (kp (hN1.su xs[p] hm) (by decide)) (by decide); exact this
   . intro x hx
     rcases List.mem_or_eq_of_mem_set hx with hx | rfl
     . exact ks (kp (hN1.more x hx) (by decide)) (by decide)
     . have := ks (kp (hN1.more xs[p] hm) (by decide)) (by decide); exact this
   ·
    have hnew : ∀ i (hi : i < xs.length) a, i ≠ p -> xs[i].ka = some a -> a.block ≠ g' := by
     intro i hi a hip ha e
     rcases hblk with hblk | hblk
     . cases hkp : xs[p].ka with
       | none => rw [hkp] at hblk; simp [Value.ownBlock] at hblk
       | some a2 =>
         rw [hkp] at hblk
         simp only [Value.ownBlock, Option.some.injEq] at hblk
         exact hA i p hi hp a a2 hip ha hkp (by rw [e, hblk])
     . simp only [Value.ownBlock, Option.some.injEq] at hblk
       have h1 := World.ownsRow.lt (hN1.kids _ (List.getElem_mem hi)) a.block (by rw [ha]; rfl)
       have h2 := World.ownsRow.lt (hN.kids _ (List.getElem_mem hi)) a.block (by rw [ha]; rfl)
       have h3 := hbl.size
       omega
    intro i j hi hj a b hij ha hb'
    simp only [List.length_set] at hi hj
    rw [List.getElem_set] at ha hb'
    split at ha
    . split at hb'
      . omega
      . simp only [Option.some.injEq] at ha; subst ha
        exact fun e => hnew j hj b (by omega) hb' e.symm
    . split at hb'
      . simp only [Option.some.injEq] at hb'; subst hb'
        exact hnew i hi a (by omega) ha
      . exact hA i j hi hj a b hij ha hb'
   . refine ((hb.trans (hbl.mono (Nat.le_trans hB hb.size))).grown hgr hB1 (fun k hk => (World.ownsRow.lt hK k hk).1)).setCell ?_ _
     exact (World.ownsRow.lt hrow' g rfl).1
   . exact Nat.le_trans hbl.size hgr.size
theorem xcells_same (xs : List XNode) (i : Nat) (h : i < xs.length) (y : XNode) (hy : y.cells = xs[i].cells) : xcells (xs.set i y) = xcells xs := by
 induction xs generalizing i with
 | nil => simp at h
 | cons x xs ih =>
   cases i with
   | zero => simp only [List.set_cons_zero, xcells_cons]; rw [hy]; rfl
   | succ i => simp only [List.set_cons_succ, xcells_cons]; rw [ih i (by simpa using h) (by simpa using hy)]
theorem NodesW.kidSet {w : World} {B g n c gk : Nat} {xs : List XNode} (hN : NodesW w B (.slice (some ⟨g, 0, none⟩) n c) xs) (hn : n = xs.length) (hA : Apart xs) (i : Nat) (hi : i < xs.length) (hk : xs[i].ka = some ⟨gk, 0, none⟩) (p k : Nat) :
 NodesW (w.setCell ⟨gk, p, none⟩ (IV k)) B (.slice (some ⟨g, 0, none⟩) n c) (xs.set i { xs[i] with kids := xs[i].kids.set p k }) /\ Apart (xs.set i { xs[i] with kids := xs[i].kids.set p k }) := by
 subst hn
 have hK := hN.kids _ (List.getElem_mem hi)
 rw [hk] at hK
 have hst := World.ownsRow.stored hK p (IV k)
 have ks : ∀ {e s n : Nat} {v : Value} {l : List Value}, w.ownsRow B e s v n l -> e ≠ 3 -> (w.setCell ⟨gk, p, none⟩ (IV k)).ownsRow B e s v n l := fun hr he => hr.kept hst.2 (rows_ne hr hK he)
 have hxc : xcells (xs.set i { xs[i] with kids := xs[i].kids.set p k }) = xcells xs := by
  exact xcells_same xs i hi _ (by simp [XNode.cells])
 refine ⟨⟨?_, ?_, ?_, ?_⟩, ?_⟩
 . rw [List.length_set, hxc]; exact ks hN.row (by decide)
 . intro x hx
   obtain ⟨j, hj, rfl⟩ := List.getElem_of_mem hx
   rw [List.length_set] at hj
   rw [List.getElem_set]
   split
   . have h9 := hst.1
     have e1 : (xs[i].kids.set p k).length = xs[i].kids.length := by simp
     have e2 : (xs[i].kids.set p k).map IV = (xs[i].kids.map IV).set p (IV k) := by simp [List.map_set]
     rw [<- e2] at h9
     show World.ownsRow _ B 3 1 (.slice xs[i].ka (xs[i].kids.set p k).length xs[i].kc) (xs[i].kids.set p k).length _
     rw [e1, hk]
     exact h9
   . refine (hN.kids _ (List.getElem_mem hj)).kept hst.2 ?_
     cases hka : xs[j].ka with
     | none => exact .inl rfl
     | some a1 =>
       refine .inr fun e => ?_
       simp only [Value.ownBlock, Option.some.injEq] at e
       exact hA i j hi hj _ a1 (by omega) hk hka e.symm
 . intro x hx
   rcases List.mem_or_eq_of_mem_set hx with hx | rfl
   . exact ks (hN.su x hx) (by decide)
   . have := ks (hN.su xs[i] (List.getElem_mem hi)) (by decide); exact this
 . intro x hx
   rcases List.mem_or_eq_of_mem_set hx with hx | rfl
   . exact ks (hN.more x hx) (by decide)
   . have := ks (hN.more xs[i] (List.getElem_mem hi)) (by decide); exact this
 . intro j l hj hl a b hjl ha hb
   simp only [List.length_set] at hj hl
   rw [List.getElem_set] at ha hb
   refine hA j l hj hl a b hjl ?_ ?_
   . split at ha
     . subst_vars; exact ha
     . exact ha
   . split at hb
     . subst_vars; exact hb
     . exact hb
def Sh (xs ys : List XNode) : Prop := ys.length = xs.length /\ ∀ i (h : i < xs.length) (h' : i < ys.length), ∃ l, l.Perm xs[i].kids /\ ys[i] = { xs[i] with kids := l }
theorem Sh.refl (xs : List XNode) : Sh xs xs := ⟨rfl, fun i h h' => ⟨_, List.Perm.refl _, rfl⟩⟩
theorem Sh.kids {xs ys : List XNode} (h : Sh xs ys) (i : Nat) (hi : i < xs.length) (l : List Nat) (hl : ∀ h' : i < ys.length, l.Perm ys[i].kids) : ∀ h' : i < ys.length, Sh xs (ys.set i { ys[i] with kids := l }) := by
 intro h'
 refine ⟨by rw [List.length_set, h.1], fun j hj hj' => ?_⟩
 rw [List.getElem_set]
 rw [List.length_set] at hj'
 split
 . rename_i hij
   subst hij
   obtain ⟨l', hp, he⟩ := h.2 i hi h'
   have hl' := hl h'
   have hk : ys[i].kids = l' := by rw [he]
   refine ⟨l, hl'.trans (by rw [hk]; exact hp), ?_⟩
   rw [he]
 . exact h.2 j hj hj'
structure Srt (w0 w : World) (g c : Nat) (xs ys : List XNode) : Prop where
 nodes : NodesW w w0.heap.size (.slice (some ⟨g, 0, none⟩) xs.length c) ys
 apart : Apart ys
 sh : Sh xs ys
 below : Below w0.heap.size w0 w
theorem Srt.swap {w0 w : World} {g c gk : Nat} {xs ys : List XNode} (h : Srt w0 w g c xs ys) (i : Nat) (hi : i < ys.length) (hk : ys[i].ka = some ⟨gk, 0, none⟩) (p q : Nat) (hp : p < ys[i].kids.length) (hq : q < ys[i].kids.length) :
 Srt w0 ((w.setCell ⟨gk, p, none⟩ (IV ys[i].kids[q])).setCell ⟨gk, q, none⟩ (IV ys[i].kids[p])) g c xs (ys.set i { ys[i] with kids := (ys[i].kids.set p ys[i].kids[q]).set q ys[i].kids[p] }) := by
 have h1 := h.nodes.kidSet h.sh.1.symm h.apart i hi hk p ys[i].kids[q]
 have h2 := h1.1.kidSet (by rw [List.length_set]; exact h.sh.1.symm) h1.2 i (by simpa using hi) (by simpa using hk) q ys[i].kids[p]
 have hgk := World.ownsRow.lt (h.nodes.kids _ (List.getElem_mem hi)) gk (by rw [hk]; rfl)
 simp only [List.set_set, List.getElem_set_self] at h2
 exact ⟨h2.1, h2.2, h.sh.kids i (by rw [<- h.sh.1]; exact hi) _ (fun _ => List.set_set_perm hp hq) hi, (h.below.setCell hgk.1 _).setCell hgk.1 _⟩
theorem Srt.later {w0 w w' : World} {g c : Nat} {xs ys : List XNode} (h : Srt w0 w g c xs ys) (hx : Below w.heap.size w w') : Srt w0 w' g c xs ys :=
 ⟨h.nodes.later hx, h.apart, h.sh, h.below.trans (hx.mono h.below.size)⟩
theorem Srt.kid {w0 w : World} {g c gk : Nat} {xs ys : List XNode} (h : Srt w0 w g c xs ys) (i : Nat) (hi : i < ys.length) (hk : ys[i].ka = some ⟨gk, 0, none⟩) (p : Nat) (hp : p < ys[i].kids.length) :
 w.cell? ⟨gk, p, none⟩ = some (.int .i64 ys[i].kids[p]) /\ w.frozen? ⟨gk, p, none⟩ = false := by
 have hK := h.nodes.kids _ (List.getElem_mem hi)
 rw [hk] at hK
 refine ⟨?_, World.ownsRow.frozenAt hK p⟩
 rw [World.ownsRow.cellAt hK p (by omega)]
 simp [hp, IV]
structure KidS (xs ys : List XNode) (i : Nat) (ka : Option Addr) (n : Nat) : Prop where
 lt : i < ys.length
 at' : ys[i].ka = ka /\ ys[i].kids.length = n
 kid : ∀ k ∈ ys[i].kids, k < xs.length
 le : n <= xs.length
theorem KidS.of {xs ys : List XNode} {i n : Nat} {ka : Option Addr} (h : Sh xs ys) (hs : Sane (xs.map (fun x => x.toNode))) (hi : i < ys.length) (hka : ys[i].ka = ka) (hn : ys[i].kids.length = n) : KidS xs ys i ka n := by
 have hix : i < xs.length := by rw [<- h.1]; exact hi
 obtain ⟨l, hp, he⟩ := h.2 i hix hi
 have hm : (xs[i]).toNode ∈ xs.map (fun x => x.toNode) := List.mem_map.2 ⟨_, List.getElem_mem hix, rfl⟩
 have hk : ys[i].kids = l := by rw [he]
 refine ⟨hi, ⟨hka, hn⟩, fun k hk' => ?_, ?_⟩
 . rw [hk] at hk'
   have := hs.kid _ hm k (hp.subset hk')
   simpa using this
 . have := hs.kids _ hm
   simp only [List.length_map] at this
   rw [<- hn, hk, hp.length_eq]
   omega
theorem KidS.swap {xs ys : List XNode} {i n : Nat} {ka : Option Addr} (h : KidS xs ys i ka n) (p q : Nat) (hp : p < (ys[i]'h.lt).kids.length) (hq : q < (ys[i]'h.lt).kids.length) :
 KidS xs (ys.set i { (ys[i]'h.lt) with kids := ((ys[i]'h.lt).kids.set p (ys[i]'h.lt).kids[q]).set q (ys[i]'h.lt).kids[p] }) i ka n := by
 have hlt := h.lt
 refine ⟨by simpa using hlt, ?_, ?_, h.le⟩
 . rw [List.getElem_set_self]; exact ⟨h.at'.1, by simpa using h.at'.2⟩
 . rw [List.getElem_set_self]
   intro k hk
   exact h.kid k ((List.set_set_perm hp hq).subset hk)
theorem KidS.ka {w : World} {B : Nat} {v : Value} {xs ys : List XNode} {i n : Nat} {ka : Option Addr} (h : KidS xs ys i ka n) (hN : NodesW w B v ys) (hn : 0 < n) : ∃ gk, ka = some ⟨gk, 0, none⟩ := by
 obtain ⟨A, c, e, hA, _⟩ := ownsRow_shape (hN.kids _ (List.getElem_mem h.lt))
 injection e with e1 e2 e3
 obtain ⟨g, hg⟩ := hA (by rw [h.at'.2]; exact hn)
 exact ⟨g, by rw [<- h.at'.1, e1, hg]⟩
end Go.Proofs.YtilgpaeeleknhaaGreatDoor
