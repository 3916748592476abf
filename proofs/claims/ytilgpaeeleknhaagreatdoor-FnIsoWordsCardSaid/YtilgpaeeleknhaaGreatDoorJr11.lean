/- A part of the proof of laws.FnIsoRock (see the last text). -/
import Derived.Test.YtilgpaeeleknhaaGreatDoorJr10
import Derived.StillTailTactics
import Derived.Deep.RegionHeld3
set_option linter.unusedSimpArgs false
set_option linter.unusedVariables false
set_option maxRecDepth 1000000
set_option maxHeartbeats 8000000
namespace Go.Proofs.YtilgpaeeleknhaaGreatDoor
open Go Go.RowKit
abbrev File.cells (f : File) : List Value := [.string f.path, .bool f.dir, .string f.data, .string f.target, .int .u32 f.perm, .int .u32 f.uid, .int .u32 f.gid, .int .i64 f.time]
def FilesR (w : World) (B : Nat) (A : Option Addr) (fs : List File) : Prop :=
 ∀ (i : Nat) (h : i < fs.length), ∃ b o, A = some ⟨b, o, none⟩ /\ b < B /\ w.rangeAt b (o + i * 8) fs[i].cells
theorem FilesR.keep {w w' : World} {B B' : Nat} {A : Option Addr} {fs : List File} (h : FilesR w B A fs) (hb : Below B' w w') (hB : B <= B') : FilesR w' B A fs := by
 intro i hi
 obtain ⟨b, o, e, hlt, hr⟩ := h i hi
 refine ⟨b, o, e, hlt, fun j u hu => ?_⟩
 rw [hb.cell (p := ⟨b, o + i * 8 + j, none⟩) (show b < B' by omega)]
 exact hr j u hu
theorem info37 : (Tryz.prog.info? 37).map (·.size) = some 8 := by kernel_rfl
theorem under37' : (Tryz.prog.underlying 37).map (·.isRow) = some true := by kernel_rfl
theorem isRow_of {P : Program} {t : Nat} (h : (P.underlying t).map (·.isRow) = some true) : ∃ d, P.underlying t = some d /\ d.isRow = true := by
 cases he : P.underlying t with
 | none => rw [he] at h; simp at h
 | some d => rw [he] at h; exact ⟨d, rfl, by simpa using h⟩
theorem wpList_loadFile {ops : Array Oper} {rest : List Oper} {o : Oper} {a : Act} {w : World} {Q : Exit -> Act -> World -> Prop} (hgd : o.guard = none) (x : Operand) (ho : o.op = .load 37 x)
 {b off : Nat} {f : File} (hx : a.eval x = .pointer (some ⟨b, off, none⟩)) (h : w.rangeAt b off f.cells)
 (hK : wpList Tryz.prog ops Q rest (a.put o.dst (.agg #[.string f.path, .bool f.dir, .string f.data, .string f.target, .int .u32 f.perm, .int .u32 f.uid, .int .u32 f.gid, .int .i64 f.time])) w) :
 wpList Tryz.prog ops Q (o :: rest) a w := by
 obtain ⟨d, hd, hr⟩ := isRow_of under37'
 exact wpList_load_mid hgd 37 x ho b off hx f.cells d h hd hr info37 hK
abbrev XNode.ns (xs : List XNode) : List Node := xs.map (fun x => x.toNode)
structure Mid (w0 w : World) (rock : Bool) (fs : List File) (k : Nat) (v : Value) (xs : List XNode) (g cap : Nat) : Prop where
 v : v = .slice (some ⟨g, 0, none⟩) xs.length cap
 len : xs.length = k + 1
 nodes : NodesW w w0.heap.size (.slice (some ⟨g, 0, none⟩) xs.length cap) xs
 apart : Apart xs
 pure : addFiles rock [rootNode] (fs.take k) = some (XNode.ns xs)
 below : Below w0.heap.size w0 w
theorem NodesW.len_le {w : World} {B g n c : Nat} {xs : List XNode} (h : NodesW w B (.slice (some ⟨g, 0, none⟩) n c) xs) (hn : n = xs.length) : xs.length <= c /\ B <= g /\ g < w.heap.size := by
 subst hn
 rcases h.row.2 with ⟨e, _⟩ | ⟨g', cap', cur, e, h1, h2, h3, _⟩
 . simp at e
 . injection e with e1 _ e2
   injection e1 with e1; injection e1 with e1; subst e1; subst e2
   exact ⟨h3, h1, (Array.getElem?_eq_some_iff.1 h2).1⟩
theorem rangeAt_alloc (w : World) (cs : List Value) (t : Nat) : (w.alloc (.cells cs.toArray t)).rangeAt w.heap.size 0 cs := by
 intro j u hu
 rw [Nat.zero_add]
 have hg : (w.alloc (.cells cs.toArray t)).heap[w.heap.size]? = some (.cells cs.toArray t) := by
  show (w.heap.push _)[w.heap.size]? = _; simp
 simp only [World.cell?, hg]
 simpa using hu
theorem rangeAt_keep {w w' : World} {B b o : Nat} {cs : List Value} (h : w.rangeAt b o cs) (hb : Below B w w') (hB : b < B) : w'.rangeAt b o cs := by
 intro j u hu
 rw [hb.cell (p := ⟨b, o + j, none⟩) hB]
 exact h j u hu
def newX (f : File) (id : List UInt8) (p level : Nat) : XNode := { newNode f id p level with ka := none, kc := 0, sa := none, sc := 0, ma := none, mc := 0 }
structure RInv (w0 w : World) (xs : List XNode) (g c b : Nat) (f : File) : Prop where
 nodes : NodesW w w0.heap.size (.slice (some ⟨g, 0, none⟩) xs.length c) xs
 file : w.rangeAt b 0 f.cells
 lt : b < w.heap.size
 below : Below w0.heap.size w0 w
theorem RInv.later {w0 w w' : World} {xs : List XNode} {g c b : Nat} {f : File} (h : RInv w0 w xs g c b f) (hx : Below w.heap.size w w') : RInv w0 w' xs g c b f :=
 ⟨h.nodes.later hx, rangeAt_keep h.file hx h.lt, Nat.lt_of_lt_of_le h.lt hx.size, h.below.trans (hx.mono h.below.size)⟩
theorem RInv.dir {w0 w : World} {xs : List XNode} {g c b : Nat} {f : File} (h : RInv w0 w xs g c b f) : w.cell? ⟨b, 1, none⟩ = some (.bool f.dir) := h.file 1 _ rfl
theorem RInv.start {w0 w : World} {xs : List XNode} {g c : Nat} {f : File} (hN : NodesW w w0.heap.size (.slice (some ⟨g, 0, none⟩) xs.length c) xs) (hb : Below w0.heap.size w0 w) : RInv w0 (w.alloc (.cells f.cells.toArray 37)) xs g c w.heap.size f :=
 have hs : Below w.heap.size w (w.alloc (.cells f.cells.toArray 37)) := (Below.refl _ _).alloc (Nat.le_refl _) _
 ⟨hN.later hs, rangeAt_alloc w f.cells 37, by simp, hb.trans (hs.mono hb.size)⟩
theorem ba_ext {a b : ByteArray} (h : a.data.toList = b.data.toList) : a = b := by
 cases a; cases b
 simp only [ByteArray.mk.injEq] at *
 exact Array.ext' h
theorem cutAt_len (l : List UInt8) (k : Nat) : (cutAt l k).2.length <= l.length := by
 induction k with
 | zero => exact Nat.le_refl _
 | succ k ih => unfold cutAt; split; · simp
                . exact ih
theorem cutLast_len (l : List UInt8) : (cutLast l).2.length <= l.length := cutAt_len l _
theorem xfiles_ns (xs : List XNode) : (XNode.ns xs).map (·.f) = xfiles xs := by simp [xfiles, XNode.ns]
theorem Mid.next {w0 w : World} {rock : Bool} {fs : List File} {k p g c kc : Nat} {A : Option Addr} {xs ys : List XNode} {c1 c2 : List UInt8} (hlt : k < fs.length) (hlen : xs.length = k + 1) (hpure : addFiles rock [rootNode] (fs.take k) = some (XNode.ns xs))
 (h3 : (cutLast fs[k].path.data.toList).1 = c1) (h4 : (cutLast fs[k].path.data.toList).2 = c2) (hpe : placeOf c1 (xfiles xs) = p) (hgood : p < xs.length) (hne : c2.isEmpty = false)
 (hys : xs ++ [newX fs[k] (idOf rock xs.length c2 fs[k].dir) p (xs[p].level + 1)] = ys) (hp4 : p < ys.length)
 (hN : NodesW w w0.heap.size (.slice (some ⟨g, 0, none⟩) (xs.length + 1) c) (ys.set p { ys[p] with kids := ys[p].kids ++ [xs.length], ka := A, kc := kc })) (hA : Apart (ys.set p { ys[p] with kids := ys[p].kids ++ [xs.length], ka := A, kc := kc })) (hb : Below w0.heap.size w0 w) :
 Mid w0 w rock fs (k + 1) (.slice (some ⟨g, 0, none⟩) (xs.length + 1) c) (ys.set p { ys[p] with kids := ys[p].kids ++ [xs.length], ka := A, kc := kc }) g c := by
 have hl : (ys.set p { ys[p] with kids := ys[p].kids ++ [xs.length], ka := A, kc := kc }).length = xs.length + 1 := by rw [List.length_set, <- hys]; simp
 have he : ys[p] = xs[p] := by subst hys; simp [List.getElem_append, hgood]
 refine ⟨by rw [hl], by rw [hl, hlen], by rw [hl]; exact hN, hA, ?_, hb⟩
 rw [addFiles_take rock fs k hlt, hpure]
 show stepFile rock (XNode.ns xs) fs[k] = _
 unfold stepFile
 simp only [xfiles_ns, h3, h4, hpe]
 rw [dif_pos (by simpa using hgood), if_neg (by intro e; rw [e] at hne; cases hne)]
 congr 1
 rw [he, <- hys]
 simp [XNode.ns, List.map_set, List.set_append, hgood, newX]
theorem stepFile_noname (rock : Bool) (ns : List Node) (f : File) (h : (cutLast f.path.data.toList).2 = []) : stepFile rock ns f = none := by
 unfold stepFile
 simp only [h]
 split
 . rfl
 . rfl
theorem stepFile_nodir (rock : Bool) (ns : List Node) (f : File) (h : ¬ placeOf (cutLast f.path.data.toList).1 (ns.map (·.f)) < ns.length) : stepFile rock ns f = none := by
 unfold stepFile
 simp only
 rw [dif_neg h]
def rootX : XNode := { rootNode with ka := none, kc := 0, sa := none, sc := 0, ma := none, mc := 0 }
theorem Mid.start {w : World} {rock : Bool} {fs : List File} : Mid w (w.alloc (.cells rootX.cells.toArray 64)) rock fs 0 (.slice (some ⟨w.heap.size, 0, none⟩) 1 1) [rootX] w.heap.size 1 := by
 refine ⟨rfl, rfl, ⟨?_, ?_, ?_, ?_⟩, ?_, rfl, (Below.refl _ _).alloc (Nat.le_refl _) _⟩
 . exact World.ownsRow_lit (base := w.heap.size) (e := 64) (size := 18) w rootX.cells.toArray 1 (Nat.le_refl _) (by decide) rfl
 . intro x hx; rw [List.mem_singleton] at hx; subst hx; exact World.ownsRow_nil _ _ _ _
 . intro x hx; rw [List.mem_singleton] at hx; subst hx; exact Own.nil _ _
 . intro x hx; rw [List.mem_singleton] at hx; subst hx; exact Own.nil _ _
 . intro i j hi hj a b hij ha; simp at hi hj; omega
def Shuf (ns ms : List Node) : Prop := ns.length = ms.length /\ ∀ i (h : i < ns.length) (h' : i < ms.length), ∃ l, l.Perm ns[i].kids /\ ms[i] = { ns[i] with kids := l }
theorem Sh.shuf {xs ys : List XNode} (h : Sh xs ys) : Shuf (XNode.ns xs) (XNode.ns ys) := by
 refine ⟨by simp [XNode.ns, h.1], fun i hi hi' => ?_⟩
 simp only [XNode.ns, List.length_map] at hi hi'
 obtain ⟨l, hp, he⟩ := h.2 i hi hi'
 exact ⟨l, by simpa [XNode.ns] using hp, by simp [XNode.ns, he]⟩
def Made (rock : Bool) (fs : List File) (w0 w : World) (e : Ending) : Prop :=
 Below w0.heap.size w0 w /\ (addFiles rock [rootNode] fs = none -> e = .returned (.tuple #[.slice none 0 0, .bool false])) /\
 ∀ ns, addFiles rock [rootNode] fs = some ns -> ∃ g c xs, e = .returned (.tuple #[.slice (some ⟨g, 0, none⟩) xs.length c, .bool true]) /\ NodesW w w0.heap.size (.slice (some ⟨g, 0, none⟩) xs.length c) xs /\ Shuf ns (XNode.ns xs)
theorem isoNodes_any (cap : Nat) (A : Option Addr) (fs : List File) (rock : Bool) (w : World) (hl : fs.length <= 100000) (hns : fs.length <= cap) (hA : FilesR w w.heap.size A fs) (hp : ∀ f ∈ fs, f.path.size <= 1000000) :
 Calls Tryz.prog 27 #[.slice A fs.length cap, .bool rock] w fun e w' => Made rock fs w w' e := by
 have HA := Lib.hid hA; clear hA
 go_enter Tryz.func27, Tryz.ntmps27
 go_wp2_with (fail)
 go_loopw [6, 22] (fun v i wr => ∃ (k : Nat) (xs : List XNode) (g c : Nat), k <= fs.length /\ i = .int .i64 k /\ Mid w wr rock fs k v xs g c) (fun _ i wr => fs.length - (intOf i).toNat)
 case atStart => exact ⟨0, [rootX], w.heap.size, 1, by omega, rfl, Mid.start⟩
 case round =>
  obtain ⟨k, xs, g, c, hk, rfl, hm⟩ := hrel
  obtain ⟨rfl, hlen, hN, hAp, hpure, hb⟩ := hm
  have hxl : xs.length <= 100001 := by omega
  have HL := Lib.hid hlen; clear hlen
  by_cases hlt : k < fs.length
  . obtain ⟨b, o, rfl, hob, hcells⟩ := HA.out.keep hb (Nat.le_refl _) k hlt
    have hpl := hp _ (List.getElem_mem hlt)
    have hcl := cutLast_len fs[k].path.data.toList
    generalize hc1 : (cutLast fs[k].path.data.toList).1 = c1
    generalize hc2 : (cutLast fs[k].path.data.toList).2 = c2
    rw [hc2] at hcl
    have hc2s : c2.length <= 1000000 := by rw [Array.length_toList] at hcl; exact Nat.le_trans hcl hpl
    by_cases hgood : placeOf c1 (xfiles xs) < xs.length
    . have hpos : posOf c1 (xfiles xs) = ((placeOf c1 (xfiles xs) : Nat) : Int) := by unfold posOf; rw [if_pos (by simpa using hgood)]
      generalize hpe : placeOf c1 (xfiles xs) = p at hpos hgood
      have HI := RInv.start (f := fs[k]) hN hb
      clear hN hb
      have H1 := Lib.hid hpe; have H2 := Lib.hid hpure; have H3 := Lib.hid hc1; have H4 := Lib.hid hc2
      clear hpe hpure hc1 hc2
      cases hdir : fs[k].dir with
      | true =>
        cases rock with
        | true =>
          have HD := Lib.hid hdir; clear hdir
          go_wp2_with (first
          | (refine atLoad 37 ?_; go_must (refine wpList_loadFile rfl (.tmp 24) rfl rfl hcells ?_))
          | (refine atStore 37 ?_; go_must (refine wpList_storeNew rfl 37 _ _ rfl _ _ _ _ rfl rfl (by exact info37) (by rfl) (by rfl) ?_))
          | (go_at_call 44; go_must (refine (base_any _ _ (by omega)).mono ?_); go_must (rintro e w1 ⟨rfl, hx⟩; rw [H3.out, H4.out]; replace HI := HI.later hx); clear hx)
          | (go_at_call 45; go_must (refine (isoPlace_any g c xs (ofL c1) _ (HI.nodes.len_le rfl).1 (by omega) (HI.nodes.len_le rfl).2.2 HI.nodes.cells).mono ?_); go_must (rintro e w2 ⟨rfl, hx⟩; rw [show (ofL c1).data.toList = c1 from by simp, hpos]; replace HI := HI.later hx; clear hx; have hcd := HI.dir; rw [HD.out] at hcd))
          | (go_at_call 46; go_must (refine (decimals_any _ 6 _ (by omega) (by omega)).mono ?_); go_must (rintro e w3 ⟨rfl, hx⟩; replace HI := HI.later hx; clear hx hcd; have hcd := HI.dir; rw [HD.out] at hcd)))
          . go_ret2
            refine ⟨HI.below, fun _ => rfl, fun ns hns' => ?_⟩
            have hemp : c2 = [] := List.isEmpty_iff.1 ((‹(p : Int) < 0 \/ c2.isEmpty = true›).resolve_left (by omega))
            exact absurd hns' (by rw [addFiles_none true fs k hlt _ _ H2.out (stepFile_noname true _ _ (by rw [H4.out]; exact hemp))]; simp)
          . obtain ⟨f0, f1, f2, f3, f4, f5, f6, f7⟩ : _ /\ _ /\ _ /\ _ /\ _ /\ _ /\ _ /\ _ := ⟨HI.file 0 _ rfl, HI.file 1 _ rfl, HI.file 2 _ rfl, HI.file 3 _ rfl, HI.file 4 _ rfl, HI.file 5 _ rfl, HI.file 6 _ rfl, HI.file 7 _ rfl⟩
            have hlv := HI.nodes.cells p hgood 17 _ rfl
            clear hcd
            have hb0 := HI.lt
            have hgl := (HI.nodes.len_le rfl).2.2
            have hlev := (addFiles_sane H2.out Sane.root).level _ (List.mem_map.2 ⟨xs[p], List.getElem_mem hgood, rfl⟩)
            simp only [List.length_map] at hlev
            have hwrap : IntKind.i64.wrap ((xs[p].level : Int) + 1) = ((xs[p].level + 1 : Nat) : Int) := by rw [IntWalk.i64_in _ (by omega)]; omega
            have hid : ({ data := #[78] } : ByteArray) ++ ofL (decs xs.length 6) = ofL (idOf true xs.length c2 true) := by
             exact ba_ext (by simp [idOf])
            rw [hid]
            clear hid
            have hne : c2.isEmpty = false := by simp_all
            go_region_law (first
             | (refine asStep rfl ?_; go_must (refine go_appNode (w0 := w) (w := w3) (.tmp 55) (.tmp 66) rfl w.heap.size (w3).heap.size g xs.length c _ xs (newX fs[k] (idOf true xs.length c2 true) p (xs[p].level + 1)) rfl rfl HI.nodes hAp ((Below.refl _ _).alloc (Nat.le_refl _) _).drew (by show ((w3).heap.push _)[(w3).heap.size]? = _; rw [Array.getElem?_push_size]; rfl) rfl rfl rfl ⟨rfl, rfl, rfl⟩ ⟨rfl, rfl, rfl⟩ ⟨rfl, rfl, rfl⟩ (by omega) HI.below (Nat.le_refl _) ?_); go_must (intro g2 c2' w4 hN4 hAp4 hb4 hs4))
             | (trace_state; fail))
            all_goals
             generalize hys : xs ++ [newX fs[k] (idOf true xs.length c2 true) p (xs[p].level + 1)] = ys at hN4 hAp4
             have hp4 : p < ys.length := by rw [<- hys]; simp; omega
             have hyl : xs.length + 1 = ys.length := by rw [<- hys]; simp
             have hka := hN4.cells p hp4 10 _ rfl
             have hkl : ys[p].kids.length <= 1000000 := by
              have := (addFiles_sane H2.out Sane.root).kids _ (List.mem_map.2 ⟨xs[p], List.getElem_mem hgood, rfl⟩)
              simp only [List.length_map] at this
              have e : ys[p] = xs[p] := by subst hys; simp [List.getElem_append, hgood]
              rw [e]; omega
             have HY := Lib.hid hys; have HYL := Lib.hid hyl; have HNE := Lib.hid hne
             clear hys hyl hne
             go_wp2_with (at_builtin; refine asList rfl fun KK hKK => ?_; go_must (refine go_appKid (w0 := w) (w := w4) (.tmp 74) (.tmp 78) rfl w.heap.size w4.heap.size g2 (xs.length + 1) c2' p _ xs.length ys HYL.out hN4 hAp4 hp4 rfl ((Below.refl _ _).alloc (Nat.le_refl _) _) (by show (w4.heap.push _)[w4.heap.size]? = _; rw [Array.getElem?_push_size]) rfl rfl (by rfl) hkl hb4 (Nat.le_refl _) ?_); intro A5 c5 w5 hce5 hfr5 hN5 hAp5 hb5 hs5; refine hKK _ _ ?_; clear hKK KK)
             go_roundw
             case rel => exact ⟨k + 1, _, g2, c2', hlt, by simp, Mid.next hlt HL.out H2.out H3.out H4.out H1.out hgood HNE.out (by rw [HD.out]; exact HY.out) hp4 hN5 hAp5 hb5⟩
             case measure => simp [intOf]; omega
        | false =>
          have HD := Lib.hid hdir; clear hdir
          go_wp2_with (first
          | (refine atLoad 37 ?_; go_must (refine wpList_loadFile rfl (.tmp 24) rfl rfl hcells ?_))
          | (refine atStore 37 ?_; go_must (refine wpList_storeNew rfl 37 _ _ rfl _ _ _ _ rfl rfl (by exact info37) (by rfl) (by rfl) ?_))
          | (go_at_call 44; go_must (refine (base_any _ _ (by omega)).mono ?_); go_must (rintro e w1 ⟨rfl, hx⟩; rw [H3.out, H4.out]; replace HI := HI.later hx); clear hx)
          | (go_at_call 45; go_must (refine (isoPlace_any g c xs (ofL c1) _ (HI.nodes.len_le rfl).1 (by omega) (HI.nodes.len_le rfl).2.2 HI.nodes.cells).mono ?_); go_must (rintro e w2 ⟨rfl, hx⟩; rw [show (ofL c1).data.toList = c1 from by simp, hpos]; replace HI := HI.later hx; clear hx; have hcd := HI.dir; rw [HD.out] at hcd))
          | (go_at_call 46; go_must (refine (decimals_any _ 6 _ (by omega) (by omega)).mono ?_); go_must (rintro e w3 ⟨rfl, hx⟩; replace HI := HI.later hx; clear hx hcd; have hcd := HI.dir; rw [HD.out] at hcd)))
          . go_ret2
            refine ⟨HI.below, fun _ => rfl, fun ns hns' => ?_⟩
            have hemp : c2 = [] := List.isEmpty_iff.1 ((‹(p : Int) < 0 \/ c2.isEmpty = true›).resolve_left (by omega))
            exact absurd hns' (by rw [addFiles_none false fs k hlt _ _ H2.out (stepFile_noname false _ _ (by rw [H4.out]; exact hemp))]; simp)
          . obtain ⟨f0, f1, f2, f3, f4, f5, f6, f7⟩ : _ /\ _ /\ _ /\ _ /\ _ /\ _ /\ _ /\ _ := ⟨HI.file 0 _ rfl, HI.file 1 _ rfl, HI.file 2 _ rfl, HI.file 3 _ rfl, HI.file 4 _ rfl, HI.file 5 _ rfl, HI.file 6 _ rfl, HI.file 7 _ rfl⟩
            have hlv := HI.nodes.cells p hgood 17 _ rfl
            clear hcd
            have hb0 := HI.lt
            have hgl := (HI.nodes.len_le rfl).2.2
            have hlev := (addFiles_sane H2.out Sane.root).level _ (List.mem_map.2 ⟨xs[p], List.getElem_mem hgood, rfl⟩)
            simp only [List.length_map] at hlev
            have hwrap : IntKind.i64.wrap ((xs[p].level : Int) + 1) = ((xs[p].level + 1 : Nat) : Int) := by rw [IntWalk.i64_in _ (by omega)]; omega
            have hid : (ofL c2 : ByteArray) = ofL (idOf false xs.length c2 true) := by
             exact ba_ext (by simp [idOf])
            rw [hid]
            clear hid
            have hne : c2.isEmpty = false := by simp_all
            go_region_law (first
             | (refine asStep rfl ?_; go_must (refine go_appNode (w0 := w) (w := w2) (.tmp 55) (.tmp 66) rfl w.heap.size (w2).heap.size g xs.length c _ xs (newX fs[k] (idOf false xs.length c2 true) p (xs[p].level + 1)) rfl rfl HI.nodes hAp ((Below.refl _ _).alloc (Nat.le_refl _) _).drew (by show ((w2).heap.push _)[(w2).heap.size]? = _; rw [Array.getElem?_push_size]; rfl) rfl rfl rfl ⟨rfl, rfl, rfl⟩ ⟨rfl, rfl, rfl⟩ ⟨rfl, rfl, rfl⟩ (by omega) HI.below (Nat.le_refl _) ?_); go_must (intro g2 c2' w4 hN4 hAp4 hb4 hs4))
             | (trace_state; fail))
            all_goals
             generalize hys : xs ++ [newX fs[k] (idOf false xs.length c2 true) p (xs[p].level + 1)] = ys at hN4 hAp4
             have hp4 : p < ys.length := by rw [<- hys]; simp; omega
             have hyl : xs.length + 1 = ys.length := by rw [<- hys]; simp
             have hka := hN4.cells p hp4 10 _ rfl
             have hkl : ys[p].kids.length <= 1000000 := by
              have := (addFiles_sane H2.out Sane.root).kids _ (List.mem_map.2 ⟨xs[p], List.getElem_mem hgood, rfl⟩)
              simp only [List.length_map] at this
              have e : ys[p] = xs[p] := by subst hys; simp [List.getElem_append, hgood]
              rw [e]; omega
             have HY := Lib.hid hys; have HYL := Lib.hid hyl; have HNE := Lib.hid hne
             clear hys hyl hne
             go_wp2_with (at_builtin; refine asList rfl fun KK hKK => ?_; go_must (refine go_appKid (w0 := w) (w := w4) (.tmp 74) (.tmp 78) rfl w.heap.size w4.heap.size g2 (xs.length + 1) c2' p _ xs.length ys HYL.out hN4 hAp4 hp4 rfl ((Below.refl _ _).alloc (Nat.le_refl _) _) (by show (w4.heap.push _)[w4.heap.size]? = _; rw [Array.getElem?_push_size]) rfl rfl (by rfl) hkl hb4 (Nat.le_refl _) ?_); intro A5 c5 w5 hce5 hfr5 hN5 hAp5 hb5 hs5; refine hKK _ _ ?_; clear hKK KK)
             go_roundw
             case rel => exact ⟨k + 1, _, g2, c2', hlt, by simp, Mid.next hlt HL.out H2.out H3.out H4.out H1.out hgood HNE.out (by rw [HD.out]; exact HY.out) hp4 hN5 hAp5 hb5⟩
             case measure => simp [intOf]; omega
      | false =>
        cases rock with
        | true =>
          have HD := Lib.hid hdir; clear hdir
          go_wp2_with (first
          | (refine atLoad 37 ?_; go_must (refine wpList_loadFile rfl (.tmp 24) rfl rfl hcells ?_))
          | (refine atStore 37 ?_; go_must (refine wpList_storeNew rfl 37 _ _ rfl _ _ _ _ rfl rfl (by exact info37) (by rfl) (by rfl) ?_))
          | (go_at_call 44; go_must (refine (base_any _ _ (by omega)).mono ?_); go_must (rintro e w1 ⟨rfl, hx⟩; rw [H3.out, H4.out]; replace HI := HI.later hx); clear hx)
          | (go_at_call 45; go_must (refine (isoPlace_any g c xs (ofL c1) _ (HI.nodes.len_le rfl).1 (by omega) (HI.nodes.len_le rfl).2.2 HI.nodes.cells).mono ?_); go_must (rintro e w2 ⟨rfl, hx⟩; rw [show (ofL c1).data.toList = c1 from by simp, hpos]; replace HI := HI.later hx; clear hx; have hcd := HI.dir; rw [HD.out] at hcd))
          | (go_at_call 46; go_must (refine (decimals_any _ 6 _ (by omega) (by omega)).mono ?_); go_must (rintro e w3 ⟨rfl, hx⟩; replace HI := HI.later hx; clear hx hcd; have hcd := HI.dir; rw [HD.out] at hcd)))
          . go_ret2
            refine ⟨HI.below, fun _ => rfl, fun ns hns' => ?_⟩
            have hemp : c2 = [] := List.isEmpty_iff.1 ((‹(p : Int) < 0 \/ c2.isEmpty = true›).resolve_left (by omega))
            exact absurd hns' (by rw [addFiles_none true fs k hlt _ _ H2.out (stepFile_noname true _ _ (by rw [H4.out]; exact hemp))]; simp)
          . obtain ⟨f0, f1, f2, f3, f4, f5, f6, f7⟩ : _ /\ _ /\ _ /\ _ /\ _ /\ _ /\ _ /\ _ := ⟨HI.file 0 _ rfl, HI.file 1 _ rfl, HI.file 2 _ rfl, HI.file 3 _ rfl, HI.file 4 _ rfl, HI.file 5 _ rfl, HI.file 6 _ rfl, HI.file 7 _ rfl⟩
            have hlv := HI.nodes.cells p hgood 17 _ rfl
            clear hcd
            have hb0 := HI.lt
            have hgl := (HI.nodes.len_le rfl).2.2
            have hlev := (addFiles_sane H2.out Sane.root).level _ (List.mem_map.2 ⟨xs[p], List.getElem_mem hgood, rfl⟩)
            simp only [List.length_map] at hlev
            have hwrap : IntKind.i64.wrap ((xs[p].level : Int) + 1) = ((xs[p].level + 1 : Nat) : Int) := by rw [IntWalk.i64_in _ (by omega)]; omega
            have hid : ({ data := #[78] } : ByteArray) ++ ofL (decs xs.length 6) ++ { data := #[46] } ++ { data := #[59, 49] } = ofL (idOf true xs.length c2 false) := by
             exact ba_ext (by simp [idOf])
            rw [hid]
            clear hid
            have hne : c2.isEmpty = false := by simp_all
            go_region_law (first
             | (refine asStep rfl ?_; go_must (refine go_appNode (w0 := w) (w := w3) (.tmp 55) (.tmp 66) rfl w.heap.size (w3).heap.size g xs.length c _ xs (newX fs[k] (idOf true xs.length c2 false) p (xs[p].level + 1)) rfl rfl HI.nodes hAp ((Below.refl _ _).alloc (Nat.le_refl _) _).drew (by show ((w3).heap.push _)[(w3).heap.size]? = _; rw [Array.getElem?_push_size]; rfl) rfl rfl rfl ⟨rfl, rfl, rfl⟩ ⟨rfl, rfl, rfl⟩ ⟨rfl, rfl, rfl⟩ (by omega) HI.below (Nat.le_refl _) ?_); go_must (intro g2 c2' w4 hN4 hAp4 hb4 hs4))
             | (trace_state; fail))
            all_goals
             generalize hys : xs ++ [newX fs[k] (idOf true xs.length c2 false) p (xs[p].level + 1)] = ys at hN4 hAp4
             have hp4 : p < ys.length := by rw [<- hys]; simp; omega
             have hyl : xs.length + 1 = ys.length := by rw [<- hys]; simp
             have hka := hN4.cells p hp4 10 _ rfl
             have hkl : ys[p].kids.length <= 1000000 := by
              have := (addFiles_sane H2.out Sane.root).kids _ (List.mem_map.2 ⟨xs[p], List.getElem_mem hgood, rfl⟩)
              simp only [List.length_map] at this
              have e : ys[p] = xs[p] := by subst hys; simp [List.getElem_append, hgood]
              rw [e]; omega
             have HY := Lib.hid hys; have HYL := Lib.hid hyl; have HNE := Lib.hid hne
             clear hys hyl hne
             go_wp2_with (at_builtin; refine asList rfl fun KK hKK => ?_; go_must (refine go_appKid (w0 := w) (w := w4) (.tmp 74) (.tmp 78) rfl w.heap.size w4.heap.size g2 (xs.length + 1) c2' p _ xs.length ys HYL.out hN4 hAp4 hp4 rfl ((Below.refl _ _).alloc (Nat.le_refl _) _) (by show (w4.heap.push _)[w4.heap.size]? = _; rw [Array.getElem?_push_size]) rfl rfl (by rfl) hkl hb4 (Nat.le_refl _) ?_); intro A5 c5 w5 hce5 hfr5 hN5 hAp5 hb5 hs5; refine hKK _ _ ?_; clear hKK KK)
             go_roundw
             case rel => exact ⟨k + 1, _, g2, c2', hlt, by simp, Mid.next hlt HL.out H2.out H3.out H4.out H1.out hgood HNE.out (by rw [HD.out]; exact HY.out) hp4 hN5 hAp5 hb5⟩
             case measure => simp [intOf]; omega
        | false =>
          have HD := Lib.hid hdir; clear hdir
          go_wp2_with (first
          | (refine atLoad 37 ?_; go_must (refine wpList_loadFile rfl (.tmp 24) rfl rfl hcells ?_))
          | (refine atStore 37 ?_; go_must (refine wpList_storeNew rfl 37 _ _ rfl _ _ _ _ rfl rfl (by exact info37) (by rfl) (by rfl) ?_))
          | (go_at_call 44; go_must (refine (base_any _ _ (by omega)).mono ?_); go_must (rintro e w1 ⟨rfl, hx⟩; rw [H3.out, H4.out]; replace HI := HI.later hx); clear hx)
          | (go_at_call 45; go_must (refine (isoPlace_any g c xs (ofL c1) _ (HI.nodes.len_le rfl).1 (by omega) (HI.nodes.len_le rfl).2.2 HI.nodes.cells).mono ?_); go_must (rintro e w2 ⟨rfl, hx⟩; rw [show (ofL c1).data.toList = c1 from by simp, hpos]; replace HI := HI.later hx; clear hx; have hcd := HI.dir; rw [HD.out] at hcd))
          | (go_at_call 46; go_must (refine (decimals_any _ 6 _ (by omega) (by omega)).mono ?_); go_must (rintro e w3 ⟨rfl, hx⟩; replace HI := HI.later hx; clear hx hcd; have hcd := HI.dir; rw [HD.out] at hcd)))
          . go_ret2
            refine ⟨HI.below, fun _ => rfl, fun ns hns' => ?_⟩
            have hemp : c2 = [] := List.isEmpty_iff.1 ((‹(p : Int) < 0 \/ c2.isEmpty = true›).resolve_left (by omega))
            exact absurd hns' (by rw [addFiles_none false fs k hlt _ _ H2.out (stepFile_noname false _ _ (by rw [H4.out]; exact hemp))]; simp)
          . obtain ⟨f0, f1, f2, f3, f4, f5, f6, f7⟩ : _ /\ _ /\ _ /\ _ /\ _ /\ _ /\ _ /\ _ := ⟨HI.file 0 _ rfl, HI.file 1 _ rfl, HI.file 2 _ rfl, HI.file 3 _ rfl, HI.file 4 _ rfl, HI.file 5 _ rfl, HI.file 6 _ rfl, HI.file 7 _ rfl⟩
            have hlv := HI.nodes.cells p hgood 17 _ rfl
            clear hcd
            have hb0 := HI.lt
            have hgl := (HI.nodes.len_le rfl).2.2
            have hlev := (addFiles_sane H2.out Sane.root).level _ (List.mem_map.2 ⟨xs[p], List.getElem_mem hgood, rfl⟩)
            simp only [List.length_map] at hlev
            have hwrap : IntKind.i64.wrap ((xs[p].level : Int) + 1) = ((xs[p].level + 1 : Nat) : Int) := by rw [IntWalk.i64_in _ (by omega)]; omega
            have hid : (ofL c2 : ByteArray) ++ { data := #[59, 49] } = ofL (idOf false xs.length c2 false) := by
             exact ba_ext (by simp [idOf])
            rw [hid]
            clear hid
            have hne : c2.isEmpty = false := by simp_all
            go_region_law (first
             | (refine asStep rfl ?_; go_must (refine go_appNode (w0 := w) (w := w2) (.tmp 55) (.tmp 66) rfl w.heap.size (w2).heap.size g xs.length c _ xs (newX fs[k] (idOf false xs.length c2 false) p (xs[p].level + 1)) rfl rfl HI.nodes hAp ((Below.refl _ _).alloc (Nat.le_refl _) _).drew (by show ((w2).heap.push _)[(w2).heap.size]? = _; rw [Array.getElem?_push_size]; rfl) rfl rfl rfl ⟨rfl, rfl, rfl⟩ ⟨rfl, rfl, rfl⟩ ⟨rfl, rfl, rfl⟩ (by omega) HI.below (Nat.le_refl _) ?_); go_must (intro g2 c2' w4 hN4 hAp4 hb4 hs4))
             | (trace_state; fail))
            all_goals
             generalize hys : xs ++ [newX fs[k] (idOf false xs.length c2 false) p (xs[p].level + 1)] = ys at hN4 hAp4
             have hp4 : p < ys.length := by rw [<- hys]; simp; omega
             have hyl : xs.length + 1 = ys.length := by rw [<- hys]; simp
             have hka := hN4.cells p hp4 10 _ rfl
             have hkl : ys[p].kids.length <= 1000000 := by
              have := (addFiles_sane H2.out Sane.root).kids _ (List.mem_map.2 ⟨xs[p], List.getElem_mem hgood, rfl⟩)
              simp only [List.length_map] at this
              have e : ys[p] = xs[p] := by subst hys; simp [List.getElem_append, hgood]
              rw [e]; omega
             have HY := Lib.hid hys; have HYL := Lib.hid hyl; have HNE := Lib.hid hne
             clear hys hyl hne
             go_wp2_with (at_builtin; refine asList rfl fun KK hKK => ?_; go_must (refine go_appKid (w0 := w) (w := w4) (.tmp 74) (.tmp 78) rfl w.heap.size w4.heap.size g2 (xs.length + 1) c2' p _ xs.length ys HYL.out hN4 hAp4 hp4 rfl ((Below.refl _ _).alloc (Nat.le_refl _) _) (by show (w4.heap.push _)[w4.heap.size]? = _; rw [Array.getElem?_push_size]) rfl rfl (by rfl) hkl hb4 (Nat.le_refl _) ?_); intro A5 c5 w5 hce5 hfr5 hN5 hAp5 hb5 hs5; refine hKK _ _ ?_; clear hKK KK)
             go_roundw
             case rel => exact ⟨k + 1, _, g2, c2', hlt, by simp, Mid.next hlt HL.out H2.out H3.out H4.out H1.out hgood HNE.out (by rw [HD.out]; exact HY.out) hp4 hN5 hAp5 hb5⟩
             case measure => simp [intOf]; omega
    . have hpos : posOf c1 (xfiles xs) = -1 := by unfold posOf; rw [if_neg (by simpa using hgood)]
      have HI := RInv.start (f := fs[k]) hN hb
      clear hN hb
      have H1 := Lib.hid hgood; have H2 := Lib.hid hpure; have H3 := Lib.hid hc1; have H4 := Lib.hid hc2
      clear hgood hpure hc1 hc2
      go_wp2_with (first
       | (refine atLoad 37 ?_; go_must (refine wpList_loadFile rfl (.tmp 24) rfl rfl hcells ?_))
       | (refine atStore 37 ?_; go_must (refine wpList_storeNew rfl 37 _ _ rfl _ _ _ _ rfl rfl (by exact info37) (by rfl) (by rfl) ?_))
       | (go_at_call 44; go_must (refine (base_any _ _ (by omega)).mono ?_); go_must (rintro e w1 ⟨rfl, hx⟩; rw [H3.out, H4.out]; replace HI := HI.later hx); clear hx)
       | (go_at_call 45; go_must (refine (isoPlace_any g c xs (ofL c1) _ (HI.nodes.len_le rfl).1 (by omega) (HI.nodes.len_le rfl).2.2 HI.nodes.cells).mono ?_); go_must (rintro e w2 ⟨rfl, hx⟩; rw [show (ofL c1).data.toList = c1 from by simp, hpos]; replace HI := HI.later hx; clear hx)))
      go_ret2
      refine ⟨HI.below, fun _ => rfl, fun ns hns' => ?_⟩
      exact absurd hns' (by rw [addFiles_none rock fs k hlt _ _ H2.out (stepFile_nodir rock _ _ (by rw [H3.out, xfiles_ns]; simpa using H1.out))]; simp)
  . have hke : k = fs.length := by omega
    subst hke
    rw [List.take_length] at hpure
    have hS : Srt w wr g c xs xs := ⟨hN, hAp, Sh.refl xs, hb⟩
    have hsane := addFiles_sane hpure Sane.root
    have HP := Lib.hid hpure
    have HSN := Lib.hid hsane
    clear hpure hN hAp hb hsane
    go_wp2_with fail
    go_loopw [13, 14, 15, 16, 85] (fun _ _ _ _ iv wr => ∃ (i : Nat) (ys : List XNode), i <= xs.length /\ iv = .int .i64 i /\ Srt w wr g c xs ys) (fun _ _ _ _ iv _ => xs.length - (intOf iv).toNat)
    case atStart => exact ⟨0, xs, by omega, rfl, hS⟩
    case round =>
     clear hS
     obtain ⟨i, ys, hi, rfl, hS⟩ := hrel
     by_cases hlt2 : i < xs.length
     . have hiy : i < ys.length := by rw [hS.sh.1]; exact hlt2
       have hki := hS.nodes.cells i hiy 10 _ rfl
       obtain ⟨ka, hka⟩ : ∃ ka, ys[i].ka = ka := ⟨_, rfl⟩
       obtain ⟨n, hn⟩ : ∃ n, ys[i].kids.length = n := ⟨_, rfl⟩
       rw [hka, hn] at hki
       have hKS : KidS xs ys i ka n := KidS.of hS.sh HSN.out hiy hka hn
       have hn1 : n <= 100001 := Nat.le_trans hKS.le hxl
       have HS := Lib.hid hS
       clear hka hn hS
       go_wp2_with fail
       clear hki
       go_loopw [15, 16] (fun av _ wr => ∃ (a : Nat) (zs : List XNode), 1 <= a /\ (a = 1 \/ a <= n) /\ av = .int .i64 a /\ Srt w wr g c xs zs /\ KidS xs zs i ka n) (fun av _ _ => n + 1 - (intOf av).toNat)
       case atStart => exact ⟨1, ys, by omega, .inl rfl, rfl, HS.out, hKS⟩
       case round =>
        clear hKS HS
        obtain ⟨a, zs, ha1, han, rfl, hS, hKS⟩ := hrel
        have HS := Lib.hid hS; clear hS
        by_cases hal : a < n
        . obtain ⟨gk, rfl⟩ := hKS.ka (HS.out.nodes) (by omega)
          go_wp2_with fail
          go_loopw [16] (fun bv wr => ∃ (b : Nat) (ts : List XNode), b <= a /\ bv = .int .i64 b /\ Srt w wr g c xs ts /\ KidS xs ts i (some ⟨gk, 0, none⟩) n) (fun bv _ => (intOf bv).toNat)
          case atStart => exact ⟨a, zs, by omega, rfl, HS.out, hKS⟩
          case round =>
           clear hKS HS
           obtain ⟨b, ts, hb1, rfl, hS, hKS⟩ := hrel
           have HS := Lib.hid hS; clear hS
           cases b with
           | zero =>
             go_wp2_with fail
             go_quiet (fail)
             go_wp2_with fail
             go_roundw
             case rel => exact ⟨a + 1, ts, by omega, .inr (by omega), by simp, HS.out.later (below_drewN (Below.refl _ _) _), hKS⟩
             case measure => simp [intOf]; omega
           | succ d =>
             have hbn : d + 1 < (ts[i]'hKS.lt).kids.length := by rw [hKS.at'.2]; omega
             obtain ⟨x, hx⟩ : ∃ x, (ts[i]'hKS.lt).kids[d + 1] = x := ⟨_, rfl⟩
             obtain ⟨y, hy⟩ : ∃ y, (ts[i]'hKS.lt).kids[d]'(by omega) = y := ⟨_, rfl⟩
             have hxl : x < ts.length := by rw [HS.out.sh.1, <- hx]; exact hKS.kid _ (List.getElem_mem _)
             have hyl : y < ts.length := by rw [HS.out.sh.1, <- hy]; exact hKS.kid _ (List.getElem_mem _)
             obtain ⟨hcx, hfx⟩ := HS.out.kid i hKS.lt hKS.at'.1 (d + 1) hbn
             obtain ⟨hcy, hfy⟩ := HS.out.kid i hKS.lt hKS.at'.1 d (by omega)
             rw [hx] at hcx; rw [hy] at hcy
             have hix := HS.out.nodes.cells x hxl 8 _ rfl
             have hiy2 := HS.out.nodes.cells y hyl 8 _ rfl
             obtain ⟨sx, hsx⟩ : ∃ s, ts[x].id = s := ⟨_, rfl⟩
             obtain ⟨sy, hsy⟩ : ∃ s, ts[y].id = s := ⟨_, rfl⟩
             rw [hsx] at hix; rw [hsy] at hiy2
             have hxl2 : x < xs.length := by rw [<- HS.out.sh.1]; exact hxl
             have hyl2 : y < xs.length := by rw [<- HS.out.sh.1]; exact hyl
             have HX := Lib.hid hx; have HY := Lib.hid hy
             clear hx hy hsx hsy hxl hyl
             have e1 : ((d + 1 : Nat) : Int) = (d : Int) + 1 := by omega
             rw [e1]; clear e1
             have hdn : d + 1 < n := by omega
             have hw : IntKind.i64.wrap ((d : Int) + 1 - 1) = d := by rw [IntWalk.i64_in _ (by omega)]; omega
             go_wp2_with fail
             go_quiet (fail)
             go_wp2_with fail
             . have hw2 : IntKind.i64.wrap (d : Int) = d := by rw [IntWalk.i64_in _ (by omega)]
               have hlt9 : (d : Int) < n := by omega
               have hlt8 : (d : Int) + 1 < n := by omega
               have hlt7 : (0 : Int) <= (d : Int) + 1 := by omega
               have htn : ((d : Int) + 1).toNat = d + 1 := by omega
               go_region_law (fail)
               all_goals
                go_wp2_with fail
                go_roundw
                case rel =>
                 refine ⟨d, ts.set i { (ts[i]'hKS.lt) with kids := ((ts[i]'hKS.lt).kids.set (d + 1) y).set d x }, by omega, rfl, ?_, ?_⟩
                 . have h9 := fun (W : World) (hW : Below wr.heap.size wr W) => (HS.out.later hW).swap i hKS.lt hKS.at'.1 (d + 1) d hbn (by omega)
                   simp only [HX.out, HY.out] at h9
                   exact h9 _ ((below_drewN (Below.refl _ _) _).drew)
                 . have h9 := hKS.swap (d + 1) d hbn (by omega)
                   rw [HX.out, HY.out] at h9
                   exact h9
                case measure => simp [intOf]
             . go_roundw
               case rel => exact ⟨a + 1, ts, by omega, .inr (by omega), by simp, HS.out.later (below_drewN (Below.refl _ _) _), hKS⟩
               case measure => simp [intOf]; omega
        . go_wp2_with fail
          go_roundw
          case rel => exact ⟨i + 1, zs, hlt2, by simp, HS.out⟩
          case measure => simp [intOf]; omega
     . go_wp2_with fail
       go_ret2
       refine ⟨hS.below, fun hno => (by rw [HP.out] at hno; cases hno), fun ns hns' => ?_⟩
       rw [HP.out] at hns'
       cases hns'
       refine ⟨g, c, ys, by rw [hS.sh.1]; rfl, by rw [hS.sh.1]; exact hS.nodes, Sh.shuf hS.sh⟩
def NodesB (M : Nat) (v : Value) (xs : List XNode) : Prop :=
 (∀ k, v.ownBlock = some k -> k < M) /\ ∀ x ∈ xs, (∀ a, x.ka = some a -> a.block < M) /\ (∀ a, x.sa = some a -> a.block < M) /\ (∀ a, x.ma = some a -> a.block < M)
theorem ownsRow_keep {w w' : World} {B M e s n : Nat} {v : Value} {l : List Value} (h : w.ownsRow B e s v n l) (hb : Below M w w') (hM : ∀ k, v.ownBlock = some k -> k < M) : w'.ownsRow B e s v n l :=
 ⟨h.1, h.2.imp id fun ⟨g, cap, cur, hv, h1, h2, h3⟩ => ⟨g, cap, cur, hv, h1, by
  rw [hb.block g (hM g (by rw [hv]; rfl))]; exact h2, h3⟩⟩
theorem ownBlock_of {A : Option Addr} {n c k : Nat} (h : (Value.slice A n c).ownBlock = some k) : ∃ a, A = some a /\ a.block = k := by
 cases A with
 | none => simp [Value.ownBlock] at h
 | some a => exact ⟨a, rfl, by simpa [Value.ownBlock] using h⟩
theorem NodesW.keep {w w' : World} {B M : Nat} {v : Value} {xs : List XNode} (h : NodesW w B v xs) (hM : NodesB M v xs) (hb : Below M w w') : NodesW w' B v xs := by
 refine ⟨ownsRow_keep h.row hb hM.1, fun x hx => ownsRow_keep (h.kids x hx) hb fun k hk => ?_, fun x hx => ?_, fun x hx => ?_⟩
 . obtain ⟨a, e, rfl⟩ := ownBlock_of hk; exact (hM.2 x hx).1 a e
 . exact ownsRow_keep (h.su x hx) hb fun k hk => by obtain ⟨a, e, rfl⟩ := ownBlock_of hk; exact (hM.2 x hx).2.1 a e
 . exact ownsRow_keep (h.more x hx) hb fun k hk => by obtain ⟨a, e, rfl⟩ := ownBlock_of hk; exact (hM.2 x hx).2.2 a e
theorem NodesW.bound {w : World} {B : Nat} {v : Value} {xs : List XNode} (h : NodesW w B v xs) : NodesB w.heap.size v xs := by
 refine ⟨fun k hk => (World.ownsRow.lt h.row k hk).2, fun x hx => ⟨fun a e => ?_, fun a e => ?_, fun a e => ?_⟩⟩
 . exact (World.ownsRow.lt (h.kids x hx) a.block (by rw [e]; rfl)).2
 . exact (World.ownsRow.lt (h.su x hx) a.block (by rw [e]; rfl)).2
 . exact (World.ownsRow.lt (h.more x hx) a.block (by rw [e]; rfl)).2
def SameMem (x y : XNode) : Prop := y.kids = x.kids /\ y.ka = x.ka /\ y.kc = x.kc /\ y.su = x.su /\ y.sa = x.sa /\ y.sc = x.sc /\ y.more = x.more /\ y.ma = x.ma /\ y.mc = x.mc
theorem NodesW.setField {w : World} {B g n c : Nat} {xs : List XNode} (hN : NodesW w B (.slice (some ⟨g, 0, none⟩) n c) xs) (hn : n = xs.length) (i : Nat) (hi : i < xs.length) (j : Nat) (hj : j < 18) (u : Value) (y : XNode)
 (hy : y.cells = xs[i].cells.set j u) (hs : SameMem xs[i] y) :
 NodesW (w.setCell ⟨g, i * 18 + j, none⟩ u) B (.slice (some ⟨g, 0, none⟩) n c) (xs.set i y) /\ w.grownBy (w.setCell ⟨g, i * 18 + j, none⟩ u) (some g) := by
 subst hn
 have hst := World.ownsRow.stored hN.row (i * 18 + j) u
 have ks : ∀ {e s n : Nat} {v : Value} {l : List Value}, w.ownsRow B e s v n l -> e ≠ 64 -> (w.setCell ⟨g, i * 18 + j, none⟩ u).ownsRow B e s v n l := fun hr he => hr.kept hst.2 (rows_ne hr hN.row he)
 obtain ⟨h1, h2, h3, h4, h5, h6, h7, h8, h9⟩ := hs
 have hm := List.getElem_mem hi
 refine ⟨⟨?_, ?_, ?_, ?_⟩, hst.2⟩
 . have := hst.1
   rw [xcells_set xs i hi j hj u y hy] at this
   rw [List.length_set]; exact this
 . intro x hx
   rcases List.mem_or_eq_of_mem_set hx with hx | rfl
   . exact ks (hN.kids x hx) (by decide)
   . rw [h1, h2, h3]; exact ks (hN.kids _ hm) (by decide)
 . intro x hx
   rcases List.mem_or_eq_of_mem_set hx with hx | rfl
   . exact ks (hN.su x hx) (by decide)
   . rw [h4, h5, h6]; exact ks (hN.su _ hm) (by decide)
 . intro x hx
   rcases List.mem_or_eq_of_mem_set hx with hx | rfl
   . exact ks (hN.more x hx) (by decide)
   . rw [h7, h8, h9]; exact ks (hN.more _ hm) (by decide)
theorem NodesB.set {M : Nat} {v : Value} {xs : List XNode} (h : NodesB M v xs) (i : Nat) (hi : i < xs.length) (y : XNode) (hs : SameMem xs[i] y) : NodesB M v (xs.set i y) := by
 obtain ⟨h1, h2, h3, h4, h5, h6, h7, h8, h9⟩ := hs
 refine ⟨h.1, fun x hx => ?_⟩
 rcases List.mem_or_eq_of_mem_set hx with hx | rfl
 . exact h.2 x hx
 . rw [h2, h5, h8]; exact h.2 _ (List.getElem_mem hi)
abbrev kidsOf (ns : List Node) (x : Nat) : List Nat := (ns.getD x rootNode).kids
abbrev parOf (ns : List Node) (x : Nat) : Nat := (ns.getD x rootNode).parent
abbrev dirOf (ns : List Node) (x : Nat) : Bool := (ns.getD x rootNode).f.dir
structure Tree (ns : List Node) : Prop where
 pos : 0 < ns.length
 lt : ∀ i, i < ns.length -> ∀ k ∈ kidsOf ns i, k < ns.length
 par : ∀ i, i < ns.length -> ∀ k ∈ kidsOf ns i, parOf ns k = i /\ i < k
 nodup : ∀ i, i < ns.length -> (kidsOf ns i).Nodup
structure BQ (ns : List Node) (out : List Nat) (i j : Nat) : Prop where
 ilt : i <= out.length
 head : 0 < out.length /\ out.getD 0 0 = 0
 lt : ∀ x ∈ out, x < ns.length
 dir : ∀ x ∈ out, x = 0 \/ dirOf ns x = true
 nodup : out.Nodup
 par : ∀ x ∈ out, x = 0 \/ parOf ns x ∈ out.take i \/ (i < out.length /\ parOf ns x = out.getD i 0 /\ x ∈ (kidsOf ns (out.getD i 0)).take j)
 done : ∀ t k, t < out.length -> (t < i /\ k ∈ kidsOf ns (out.getD t 0)) \/ (t = i /\ k ∈ (kidsOf ns (out.getD t 0)).take j) -> dirOf ns k = true -> k ∈ out
theorem BQ.le {ns : List Node} {out : List Nat} {i j : Nat} (h : BQ ns out i j) : out.length <= ns.length := by
 have h1 := List.Nodup.length_le_of_subset h.nodup (l₂ := List.range ns.length) (fun x hx => List.mem_range.2 (h.lt x hx))
 simpa using h1
theorem BQ.start {ns : List Node} (h : Tree ns) : BQ ns [0] 0 0 := by
 refine ⟨by simp, by simp, ?_, ?_, by simp, ?_, ?_⟩
 . intro x hx; rw [List.mem_singleton] at hx; subst hx; exact h.pos
 . intro x hx; rw [List.mem_singleton] at hx; exact .inl hx
 . intro x hx; rw [List.mem_singleton] at hx; exact .inl hx
 . intro t k ht h'; rcases h' with ⟨h1, _⟩ | ⟨_, h1⟩
   . omega
   . simp at h1
theorem take_snoc {l : List Nat} {j : Nat} (hj : j < l.length) : l.take (j + 1) = l.take j ++ [l.getD j 0] := by
 rw [<- List.take_append_getElem hj, List.getD_eq_getElem?_getD, List.getElem?_eq_getElem hj]; rfl
theorem BQ.skip {ns : List Node} {out : List Nat} {i j : Nat} (h : BQ ns out i j) (hi : i < out.length) (hj : j < (kidsOf ns (out.getD i 0)).length) (hd : dirOf ns ((kidsOf ns (out.getD i 0)).getD j 0) = false) : BQ ns out i (j + 1) := by
 refine ⟨h.ilt, h.head, h.lt, h.dir, h.nodup, fun x hx => ?_, fun t k ht h' hdk => ?_⟩
 . rcases h.par x hx with h1 | h1 | ⟨h1, h2, h3⟩
   . exact .inl h1
   . exact .inr (.inl h1)
   . exact .inr (.inr ⟨h1, h2, by rw [take_snoc hj]; exact List.mem_append_left _ h3⟩)
 . rcases h' with h1 | ⟨rfl, h1⟩
   . exact h.done t k ht (.inl h1) hdk
   . rw [take_snoc hj, List.mem_append, List.mem_singleton] at h1
     rcases h1 with h1 | rfl
     . exact h.done t k ht (.inr ⟨rfl, h1⟩) hdk
     . rw [hd] at hdk; cases hdk
theorem getD_mem {l : List Nat} {j : Nat} (hj : j < l.length) : l.getD j 0 ∈ l := by
 rw [List.getD_eq_getElem?_getD, List.getElem?_eq_getElem hj]; exact List.getElem_mem hj
theorem getD_append {l m : List Nat} {j : Nat} (hj : j < l.length) : (l ++ m).getD j 0 = l.getD j 0 := by
 simp [List.getD_eq_getElem?_getD, List.getElem?_append_left hj]
theorem getD_inj {l : List Nat} (h : l.Nodup) {i j : Nat} (hi : i < l.length) (hj : j < l.length) (e : l.getD i 0 = l.getD j 0) : i = j := by
 rw [List.getD_eq_getElem?_getD, List.getD_eq_getElem?_getD, List.getElem?_eq_getElem hi, List.getElem?_eq_getElem hj] at e
 exact (List.getElem?_inj hi h).1 (by rw [List.getElem?_eq_getElem hi, List.getElem?_eq_getElem hj]; exact congrArg some e)
theorem BQ.new {ns : List Node} {out : List Nat} {i j : Nat} (ht : Tree ns) (h : BQ ns out i j) (hi : i < out.length) (hj : j < (kidsOf ns (out.getD i 0)).length) : (kidsOf ns (out.getD i 0)).getD j 0 ∉ out := by
 have hon : out.getD i 0 < ns.length := h.lt _ (getD_mem hi)
 intro hx
 have hm := getD_mem hj
 obtain ⟨hp, hlt⟩ := ht.par _ hon _ hm
 rcases h.par _ hx with h1 | h1 | ⟨h1, h2, h3⟩
 . omega
 . rw [hp] at h1
   obtain ⟨t, ht', e⟩ := List.mem_iff_getElem.1 h1
   rw [List.length_take] at ht'
   have : t = i := getD_inj h.nodup (by omega) hi (by
    rw [<- e, List.getElem_take, List.getD_eq_getElem?_getD, List.getElem?_eq_getElem (by omega)]; rfl)
   omega
 . obtain ⟨t, ht', e⟩ := List.mem_iff_getElem.1 h3
   rw [List.length_take] at ht'
   have : t = j := getD_inj (ht.nodup _ hon) (by omega) hj (by
    rw [<- e, List.getElem_take, List.getD_eq_getElem?_getD, List.getElem?_eq_getElem (by omega)]; rfl)
   omega
theorem BQ.push {ns : List Node} {out : List Nat} {i j : Nat} (ht : Tree ns) (h : BQ ns out i j) (hi : i < out.length) (hj : j < (kidsOf ns (out.getD i 0)).length) (hd : dirOf ns ((kidsOf ns (out.getD i 0)).getD j 0) = true) :
 BQ ns (out ++ [(kidsOf ns (out.getD i 0)).getD j 0]) i (j + 1) := by
 have hon : out.getD i 0 < ns.length := h.lt _ (getD_mem hi)
 have hnew := h.new ht hi hj
 generalize hk : (kidsOf ns (out.getD i 0)).getD j 0 = k at hnew hd
 have hkm : k ∈ kidsOf ns (out.getD i 0) := by rw [<- hk]; exact getD_mem hj
 have hti : (out ++ [k]).take i = out.take i := List.take_append_of_le_length h.ilt
 have hgi : (out ++ [k]).getD i 0 = out.getD i 0 := getD_append hi
 refine ⟨by simp; omega, ⟨by simp, by rw [getD_append h.head.1]; exact h.head.2⟩, ?_, ?_, ?_, ?_, ?_⟩
 . intro x hx
   rw [List.mem_append, List.mem_singleton] at hx
   rcases hx with hx | rfl
   . exact h.lt x hx
   . exact ht.lt _ hon _ hkm
 . intro x hx
   rw [List.mem_append, List.mem_singleton] at hx
   rcases hx with hx | rfl
   . exact h.dir x hx
   . exact .inr hd
 . rw [List.nodup_append]
   refine ⟨h.nodup, by simp, fun a ha b hb e => ?_⟩
   rw [List.mem_singleton] at hb
   subst hb; subst e; exact hnew ha
 . intro x hx
   rw [hti, hgi]
   rw [List.mem_append, List.mem_singleton] at hx
   rcases hx with hx | rfl
   . rcases h.par x hx with h1 | h1 | ⟨h1, h2, h3⟩
     . exact .inl h1
     . exact .inr (.inl h1)
     . exact .inr (.inr ⟨by simp; omega, h2, by rw [take_snoc hj]; exact List.mem_append_left _ h3⟩)
   . exact .inr (.inr ⟨by simp; omega, (ht.par _ hon _ hkm).1, by rw [take_snoc hj, hk]; simp⟩)
 . intro t x htl h' hdx
   rw [List.mem_append, List.mem_singleton]
   by_cases hto : t < out.length
   . rw [getD_append hto] at h'
     rcases h' with h1 | ⟨rfl, h1⟩
     . exact .inl (h.done t x hto (.inl h1) hdx)
     . rw [take_snoc hj, List.mem_append, List.mem_singleton, hk] at h1
       rcases h1 with h1 | h1
       . exact .inl (h.done t x hto (.inr ⟨rfl, h1⟩) hdx)
       . exact .inr h1
   . have := h.ilt; omega
theorem BQ.next {ns : List Node} {out : List Nat} {i : Nat} (h : BQ ns out i (kidsOf ns (out.getD i 0)).length) (hi : i < out.length) : BQ ns out (i + 1) 0 := by
 refine ⟨hi, h.head, h.lt, h.dir, h.nodup, fun x hx => ?_, fun t k ht h' hdk => ?_⟩
 . rw [take_snoc hi]
   rcases h.par x hx with h1 | h1 | ⟨h1, h2, h3⟩
   . exact .inl h1
   . exact .inr (.inl (List.mem_append_left _ h1))
   . exact .inr (.inl (by rw [h2]; simp))
 . rcases h' with ⟨h1, h2⟩ | ⟨_, h2⟩
   . by_cases hti : t = i
     . subst hti; exact h.done t k ht (.inr ⟨rfl, by rw [List.take_length]; exact h2⟩) hdk
     . exact h.done t k ht (.inl ⟨by omega, h2⟩) hdk
   . simp at h2
def OwnI (w : World) (B : Nat) (v : Value) (l : List Nat) : Prop := w.ownsRow B 3 1 v l.length (l.map IV)
theorem under62 : Tryz.prog.underlying 62 = some (.slice 3) := by kernel_rfl
theorem go_appInt {o : Oper} {a : Act} {w wa : World} {K : Act -> World -> Prop} {Q : Exit -> Act -> World -> Prop} (s x : Operand) (ho : o.op = .call { callee := .builtin .append, args := #[s, x], argTypes := #[62, 62] })
 (B N n : Nat) (A : Option Addr) (co : Nat) (l : List Nat) (u : Value) (k : Nat) (hn : n = l.length) (hs : a.eval s = .slice A n co) (hO : OwnI w B (.slice A n co) l)
 (hwa : Below w.heap.size w wa) (hwc : wa.heap[w.heap.size]? = some (.cells #[u] 3)) (hsz : w.heap.size = N) (hx : a.eval x = .slice (some ⟨N, 0, none⟩) 1 1) (hu : u = IV k) (hlen : n <= 1000000) (hB : B <= w.heap.size)
 (h : ∀ A' c' w', OwnI w' B (.slice A' (n + 1) c') (l ++ [k]) -> Below B w w' -> K (a.put o.dst (.slice A' (n + 1) c')) w') :
 Oper.wp Tryz.prog o a wa K Q := by
 obtain ⟨i, z, hi, hz, hzs, hsi, hby⟩ := infoz info3z
 subst hsz; subst hu; subst hn
 have hO1 : OwnI wa B (.slice A l.length co) l := ownsRow_later hO hwa
 have hB1 : B <= wa.heap.size := Nat.le_trans hB hwa.size
 refine wp_append_own (P := Tryz.prog) _ s x 62 ho B 3 i z 1 8 under62 hi hz hsi hby hzs (by decide) _ _ _ hs hO1 ⟨w.heap.size, 0, none⟩ 1 1 [IV k] hx rfl ?_ ?_ (by unfold maxLen; omega) (by omega) hB1 ?_
 . intro j u hu
   rw [Addr.add_mid, Nat.zero_add]
   simp only [World.cell?, hwc]
   simpa using hu
 . intro u hu
   rw [List.mem_singleton] at hu; subst hu; rfl
 . intro v' w' hrow hgr _
   obtain ⟨A', c', rfl, _, _⟩ := ownsRow_shape hrow
   refine h A' c' w' ?_ ?_
   . unfold OwnI; rw [List.length_append, List.map_append]; exact hrow
   . exact (hwa.mono hB).grown hgr hB1 (fun k hk => (World.ownsRow.lt hO1 k hk).1)
theorem grownBy_below {w w1 w2 : World} {row : Option Nat} (h : w.grownBy w1 row) (hb : Below w.heap.size w1 w2) : w.grownBy w2 row :=
 ⟨hb.os.trans h.os, hb.tape.trans h.tape, hb.output.trans h.output, Nat.le_trans h.size hb.size, fun k hk hr => (hb.block k hk).trans (h.block k hk hr)⟩
theorem grownBy_trans {w w1 w2 : World} {row : Option Nat} (h : w.grownBy w1 row) (h2 : w1.grownBy w2 row) : w.grownBy w2 row :=
 ⟨h2.os.trans h.os, h2.tape.trans h.tape, h2.output.trans h.output, Nat.le_trans h.size h2.size, fun k hk hr => (h2.block k (Nat.lt_of_lt_of_le hk h.size) hr).trans (h.block k hk hr)⟩
def Num (xs ys : List XNode) (out : List Nat) : Prop := ys.length = xs.length /\ ∀ k (h : k < xs.length) (h' : k < ys.length), ys[k] = { xs[k] with number := if k ∈ out then out.idxOf k + 1 else xs[k].number }
theorem Num.push {xs ys : List XNode} {out : List Nat} {k : Nat} (h : Num xs ys out) (hk : k < ys.length) (hn : k ∉ out) : Num xs (ys.set k { ys[k] with number := out.length + 1 }) (out ++ [k]) := by
 refine ⟨by rw [List.length_set]; exact h.1, fun j hj hj' => ?_⟩
 rw [List.length_set] at hj'
 rw [List.getElem_set]
 have hx := h.2 j hj hj'
 split
 . rename_i e
   subst e
   have e1 : (out ++ [k]).idxOf k = out.length := by rw [List.idxOf_append, if_neg hn]; simp
   have e2 : k ∈ out ++ [k] := by simp
   rw [hx, e1, if_pos e2]
 . rename_i e
   rw [hx]
   by_cases hm : j ∈ out
   . rw [if_pos hm, if_pos (List.mem_append_left _ hm), List.idxOf_append, if_pos hm]
   . rw [if_neg hm, if_neg (by simp [hm]; omega)]
structure DirsI (B g c : Nat) (w0 w : World) (xs ys : List XNode) (out : List Nat) (A : Option Addr) (co i j : Nat) : Prop where
 nodes : NodesW w B (.slice (some ⟨g, 0, none⟩) xs.length c) ys
 num : Num xs ys out
 row : OwnI w w0.heap.size (.slice A out.length co) out
 q : BQ (XNode.ns xs) out i j
 gb : w0.grownBy w (some g)
 bnd : NodesB w0.heap.size (.slice (some ⟨g, 0, none⟩) xs.length c) ys
theorem DirsI.sameKids {B g c co i j : Nat} {w0 w : World} {xs ys : List XNode} {out : List Nat} {A : Option Addr} (h : DirsI B g c w0 w xs ys out A co i j) (k : Nat) (hk : k < ys.length) :
 ys[k].kids = kidsOf (XNode.ns xs) k /\ ys[k].f.dir = dirOf (XNode.ns xs) k := by
 have hk' : k < xs.length := by rw [<- h.num.1]; exact hk
 rw [h.num.2 k hk' hk]
 simp [kidsOf, dirOf, XNode.ns, List.getD_eq_getElem?_getD, hk']
theorem DirsI.push {B g c co co' i j k : Nat} {w0 w w2 : World} {xs ys : List XNode} {out : List Nat} {A A' : Option Addr} (hT : Tree (XNode.ns xs)) (h : DirsI B g c w0 w xs ys out A co i j) (hi : i < out.length) (hj : j < (kidsOf (XNode.ns xs) (out.getD i 0)).length)
 (hk : (kidsOf (XNode.ns xs) (out.getD i 0)).getD j 0 = k) (hd : dirOf (XNode.ns xs) k = true) (hO : OwnI w2 w0.heap.size (.slice A' (out.length + 1) co') (out ++ [k])) (hb : Below w0.heap.size w w2) (hky : k < ys.length) :
 DirsI B g c w0 (w2.setCell ⟨g, k * 18 + 16, none⟩ (.int .i64 ((out.length + 1 : Nat) : Int))) xs (ys.set k { ys[k] with number := out.length + 1 }) (out ++ [k]) A' co' i (j + 1) := by
 subst hk
 have hN2 := h.nodes.keep h.bnd hb
 have hsf := hN2.setField h.num.1.symm _ hky 16 (by decide) (.int .i64 ((out.length + 1 : Nat) : Int)) { ys[(kidsOf (XNode.ns xs) (out.getD i 0)).getD j 0] with number := out.length + 1 } (by simp [XNode.cells]) ⟨rfl, rfl, rfl, rfl, rfl, rfl, rfl, rfl, rfl⟩
 refine ⟨hsf.1, h.num.push hky (h.q.new hT hi hj), ?_, h.q.push hT hi hj hd, grownBy_trans (grownBy_below h.gb hb) hsf.2, h.bnd.set _ hky _ ⟨rfl, rfl, rfl, rfl, rfl, rfl, rfl, rfl, rfl⟩⟩
 have hlg := h.bnd.1 g rfl
 rw [List.length_append]
 refine World.ownsRow.kept hO hsf.2 ?_
 by_cases ho : (Value.slice A' (out.length + 1) co').ownBlock = none
 . exact .inl ho
 . refine .inr fun e => ?_
   have := (World.ownsRow.lt hO g e).1
   omega
theorem OwnI.cell {w : World} {B n co : Nat} {A : Option Addr} {l : List Nat} (h : OwnI w B (.slice A n co) l) (j : Nat) (hj : j < l.length) : ∃ go, A = some ⟨go, 0, none⟩ /\ w.cell? ⟨go, j, none⟩ = some (.int .i64 (l.getD j 0)) := by
 obtain ⟨A', c', e, hA, _⟩ := ownsRow_shape h
 injection e with e1 e2 e3
 subst e1; subst e2; subst e3
 obtain ⟨go, rfl⟩ := hA (by omega)
 refine ⟨go, rfl, ?_⟩
 rw [World.ownsRow.cellAt h j (by omega)]
 simp [hj, IV, List.getD_eq_getElem?_getD]
theorem Tree.kidsLe {ns : List Node} (h : Tree ns) (i : Nat) (hi : i < ns.length) : (kidsOf ns i).length <= ns.length := by
 have h1 := List.Nodup.length_le_of_subset (h.nodup i hi) (l₂ := List.range ns.length) (fun x hx => List.mem_range.2 (h.lt i hi x hx))
 simpa using h1
theorem NodesW.frozen {w : World} {B g n c : Nat} {xs : List XNode} (h : NodesW w B (.slice (some ⟨g, 0, none⟩) n c) xs) (hn : n = xs.length) (j : Nat) : w.frozen? ⟨g, j, none⟩ = false := by
 subst hn; exact World.ownsRow.frozenAt h.row j
structure KX (ys : List XNode) (x : Nat) (ka : Option Addr) (kc n : Nat) : Prop where
 lt : x < ys.length
 at' : ys[x].ka = ka /\ ys[x].kc = kc /\ ys[x].kids.length = n
theorem KX.set {ys : List XNode} {x kc n k m : Nat} {ka : Option Addr} (h : KX ys x ka kc n) (hk : k < ys.length) : KX (ys.set k { ys[k] with number := m }) x ka kc n := by
 have hlt := h.lt
 refine ⟨by simpa using hlt, ?_⟩
 rw [List.getElem_set]
 split
 . rename_i e; subst e; exact h.at'
 . exact h.at'
theorem DirsI.kid {B g c co i i' j x n kc : Nat} {w0 w : World} {xs ys : List XNode} {out : List Nat} {A ka : Option Addr} (h : DirsI B g c w0 w xs ys out A co i i') (hK : KX ys x ka kc n) (hj : j < n) :
 ∃ gk, ka = some ⟨gk, 0, none⟩ /\ w.cell? ⟨gk, j, none⟩ = some (.int .i64 ((kidsOf (XNode.ns xs) x).getD j 0)) := by
 have hr := h.nodes.kids _ (List.getElem_mem hK.lt)
 obtain ⟨e1, e2, e3⟩ := hK.at'
 rw [e1, e2] at hr
 have hO : OwnI w B (.slice ka (ys[x]'hK.lt).kids.length kc) (ys[x]'hK.lt).kids := hr
 obtain ⟨gk, e, hc⟩ := hO.cell j (by rw [e3]; exact hj)
 refine ⟨gk, e, ?_⟩
 rw [hc, (h.sameKids x hK.lt).1]
theorem DirsI.start {B g c : Nat} {w0 : World} {xs : List XNode} (hN : NodesW w0 B (.slice (some ⟨g, 0, none⟩) xs.length c) xs) (hT : Tree (XNode.ns xs)) (hp : 0 < xs.length) :
 DirsI B g c w0 ((w0.setCell ⟨g, 16, none⟩ (.int .i64 1)).alloc (.cells #[.int .i64 0] 3)) xs (xs.set 0 { xs[0] with number := 1 }) [0] (some ⟨w0.heap.size, 0, none⟩) 1 0 0 := by
 have hsf := hN.setField rfl 0 hp 16 (by decide) (.int .i64 1) { xs[0] with number := 1 } (by simp [XNode.cells]) ⟨rfl, rfl, rfl, rfl, rfl, rfl, rfl, rfl, rfl⟩
 simp only [Nat.zero_mul, Nat.zero_add] at hsf
 have hb : Below (w0.setCell ⟨g, 16, none⟩ (.int .i64 1)).heap.size (w0.setCell ⟨g, 16, none⟩ (.int .i64 1)) ((w0.setCell ⟨g, 16, none⟩ (.int .i64 1)).alloc (.cells #[.int .i64 0] 3)) := (Below.refl _ _).alloc (Nat.le_refl _) _
 have hsz : (w0.setCell ⟨g, 16, none⟩ (.int .i64 1)).heap.size = w0.heap.size := by simp
 refine ⟨hsf.1.later hb, ⟨by simp, fun k hk hk' => ?_⟩, ?_, BQ.start hT, grownBy_below hsf.2 (hb.mono (by simp)), hN.bound.set 0 hp _ ⟨rfl, rfl, rfl, rfl, rfl, rfl, rfl, rfl, rfl⟩⟩
 . rw [List.getElem_set]
   split
   . rename_i e; subst e; simp
   . rename_i e
     rw [if_neg (by simp; omega)]
 . have := World.ownsRow_lit (base := w0.heap.size) (e := 3) (size := 1) (w0.setCell ⟨g, 16, none⟩ (.int .i64 1)) #[IV 0] 1 (by rw [hsz]; exact Nat.le_refl _) (by decide) rfl
   rw [hsz] at this
   exact this
theorem DirsI.next {B g c co i j : Nat} {w0 w : World} {xs ys : List XNode} {out : List Nat} {A : Option Addr} (h : DirsI B g c w0 w xs ys out A co i j) (hi : i < out.length) (hj : (kidsOf (XNode.ns xs) (out.getD i 0)).length = j) : DirsI B g c w0 w xs ys out A co (i + 1) 0 := by
 subst hj
 exact ⟨h.nodes, h.num, h.row, h.q.next hi, h.gb, h.bnd⟩
theorem DirsI.skip {B g c co i j : Nat} {w0 w : World} {xs ys : List XNode} {out : List Nat} {A : Option Addr} (h : DirsI B g c w0 w xs ys out A co i j) (hi : i < out.length) (hj : j < (kidsOf (XNode.ns xs) (out.getD i 0)).length) (hd : dirOf (XNode.ns xs) ((kidsOf (XNode.ns xs) (out.getD i 0)).getD j 0) = false) : DirsI B g c w0 w xs ys out A co i (j + 1) :=
 ⟨h.nodes, h.num, h.row, h.q.skip hi hj hd, h.gb, h.bnd⟩
theorem isoDirs_any (B g c : Nat) (xs : List XNode) (w : World) (hN : NodesW w B (.slice (some ⟨g, 0, none⟩) xs.length c) xs) (hT : Tree (XNode.ns xs)) (hl : xs.length <= 100001) (hB : B <= w.heap.size) :
 Calls Tryz.prog 30 #[.slice (some ⟨g, 0, none⟩) xs.length c] w fun e w' => ∃ A co out ys, e = .returned (.slice A out.length co) /\ DirsI B g c w w' xs ys out A co out.length 0 := by
 have hpos : 0 < xs.length := by have := hT.pos; simpa [XNode.ns] using this
 have hc0 := hN.cells 0 hpos 16 _ rfl
 have hf0 := World.ownsRow.frozenAt hN.row 16
 simp only [Nat.zero_mul, Nat.zero_add] at hc0
 have hg := (hN.len_le rfl).2.2
 have HN := Lib.hid hN; have HT := Lib.hid hT
 clear hN hT
 go_enter Tryz.func30, Tryz.ntmps30
 go_wp2_with (fail)
 go_loopw [3, 4] (fun ov iv wr => ∃ (out : List Nat) (ys : List XNode) (A : Option Addr) (co i : Nat), ov = .slice A out.length co /\ iv = .int .i64 i /\ DirsI B g c w wr xs ys out A co i 0) (fun _ iv _ => xs.length - (intOf iv).toNat)
 case atStart => exact ⟨[0], _, _, 1, 0, rfl, rfl, DirsI.start HN.out HT.out hpos⟩
 case round =>
  obtain ⟨out, ys, A, co, i, rfl, rfl, hD⟩ := hrel
  have hol : out.length <= xs.length := by have := hD.q.le; simpa [XNode.ns] using this
  by_cases hi : i < out.length
  . obtain ⟨go, rfl, hgo⟩ := hD.row.cell i hi
    obtain ⟨x, hx⟩ : ∃ x, out.getD i 0 = x := ⟨_, rfl⟩
    rw [hx] at hgo
    have hxl : x < xs.length := by have := hD.q.lt _ (getD_mem hi); rw [hx] at this; simpa [XNode.ns] using this
    have hxy : x < ys.length := by rw [hD.num.1]; exact hxl
    have hkc := hD.nodes.cells x hxy 10 _ rfl
    obtain ⟨ka, hka⟩ : ∃ ka, ys[x].ka = ka := ⟨_, rfl⟩
    obtain ⟨kc, hkcc⟩ : ∃ kc, ys[x].kc = kc := ⟨_, rfl⟩
    obtain ⟨n, hn⟩ : ∃ n, ys[x].kids.length = n := ⟨_, rfl⟩
    rw [hka, hkcc, hn] at hkc
    have hKX : KX ys x ka kc n := ⟨hxy, hka, hkcc, hn⟩
    have hkn : (kidsOf (XNode.ns xs) x).length = n := by rw [<- (hD.sameKids x hxy).1, hn]
    have hn1 : n <= 100001 := by
     rw [<- hkn]
     have h8 := HT.out.kidsLe x (by simpa [XNode.ns] using hxl)
     have h9 : (XNode.ns xs).length = xs.length := by simp [XNode.ns]
     omega
    have HX := Lib.hid hx; have HKN := Lib.hid hkn; have HD := Lib.hid hD
    clear hx hka hkcc hn hkn hD
    go_wp2_with (fail)
    clear hgo hkc
    go_loopw [3, 6, 26] (fun ov _ jv wr => ∃ (out : List Nat) (ys : List XNode) (A : Option Addr) (co j : Nat), j <= n /\ ov = .slice A out.length co /\ jv = .int .i64 j /\ DirsI B g c w wr xs ys out A co i j /\ KX ys x ka kc n /\ i < out.length /\ Hid (out.getD i 0 = x)) (fun _ _ jv _ => n - (intOf jv).toNat)
    case atStart => exact ⟨out, ys, _, co, 0, by omega, rfl, rfl, HD.out, hKX, hi, HX.out⟩
    case round =>
     clear hKX HD HX hi hol hxy
     obtain ⟨out, ys, A, co, j, hjn, rfl, rfl, hD, hKX, hi, HX⟩ := hrel
     have hol : out.length <= xs.length := by have := hD.q.le; simpa [XNode.ns] using this
     by_cases hj : j < n
     . obtain ⟨gk, rfl, hgk⟩ := hD.kid hKX hj
       obtain ⟨k, hk⟩ : ∃ k, (kidsOf (XNode.ns xs) x).getD j 0 = k := ⟨_, rfl⟩
       rw [hk] at hgk
       have hkm : k ∈ kidsOf (XNode.ns xs) x := by rw [<- hk]; exact getD_mem (by rw [HKN.out]; exact hj)
       have hkl : k < xs.length := by have := HT.out.lt x (by simpa [XNode.ns] using hxl) k hkm; simpa [XNode.ns] using this
       have hky : k < ys.length := by rw [hD.num.1]; exact hkl
       have hdc := hD.nodes.cells k hky 1 _ rfl
       rw [(hD.sameKids k hky).2] at hdc
       have HK := Lib.hid hk
       have HD := Lib.hid hD
       clear hk hkm hD
       cases hdir : dirOf (XNode.ns xs) k with
       | false =>
         rw [hdir] at hdc
         have HDR := Lib.hid hdir
         clear hdir
         go_wp2_with (fail)
         go_roundw
         case rel => exact ⟨out, ys, A, co, j + 1, by omega, rfl, by simp, HD.out.skip hi (by rw [HX.out, HKN.out]; exact hj) (by rw [HX.out, HK.out]; exact HDR.out), hKX, hi, HX⟩
         case measure => simp [intOf]; omega
       | true =>
         rw [hdir] at hdc
         have HDR := Lib.hid hdir
         clear hdir
         go_wp2_with (at_builtin; go_must (refine asList rfl fun KK hKK => ?_); go_must (refine go_appInt (w := wr) (.tmp 36) (.tmp 38) rfl w.heap.size wr.heap.size out.length A co out _ k rfl rfl HD.out.row ((Below.refl _ _).alloc (Nat.le_refl _) _) (by show (wr.heap.push _)[wr.heap.size]? = _; rw [Array.getElem?_push_size]) rfl rfl (by rfl) (by omega) HD.out.gb.size ?_); intro A2 co2 w2 hO2 hb2; refine hKK _ _ ?_; clear hKK KK; have hc2 := (HD.out.nodes.keep HD.out.bnd hb2).cells k hky 16 _ rfl; have hf2 := (HD.out.nodes.keep HD.out.bnd hb2).frozen HD.out.num.1.symm (k * 18 + 16))
         go_roundw
         case rel =>
          refine ⟨out ++ [k], ys.set k { ys[k] with number := out.length + 1 }, A2, co2, j + 1, by omega, by rw [List.length_append]; rfl, by simp, ?_, hKX.set hky, by rw [List.length_append]; omega, by unfold Hid; rw [getD_append hi]; exact HX.out⟩
          exact HD.out.push HT.out hi (by rw [HX.out, HKN.out]; exact hj) (by rw [HX.out, HK.out]) HDR.out hO2 hb2 hky
         case measure => simp [intOf]; omega
     . go_wp2_with (fail)
       go_roundw
       case rel => exact ⟨out, ys, A, co, i + 1, rfl, by simp, hD.next hi (by rw [HX.out, HKN.out]; omega)⟩
       case measure => simp [intOf]; omega
  . go_wp2_with (fail)
    go_ret
    have hie : i = out.length := by have := hD.q.ilt; omega
    subst hie
    exact ⟨A, co, out, ys, rfl, hD⟩
end Go.Proofs.YtilgpaeeleknhaaGreatDoor
