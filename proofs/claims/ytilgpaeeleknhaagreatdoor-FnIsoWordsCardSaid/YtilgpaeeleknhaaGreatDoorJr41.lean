/- A part of the proof of laws.FnIsoRock (see the last text). -/
import Derived.Test.YtilgpaeeleknhaaGreatDoorJr40
import Derived.Test.YtilgpaeeleknhaaGreatDoorJr39
set_option linter.unusedSimpArgs false
set_option linter.unusedVariables false
set_option maxRecDepth 1000000
set_option maxHeartbeats 8000000
namespace Go.Proofs.YtilgpaeeleknhaaGreatDoor
open Go Go.RowKit
theorem Fam.same {rock : Bool} {ns ms : List Node} {fs : List File} (hl : ms.length = ns.length) (h : ∀ i, (nodeAt ms i).f = (nodeAt ns i).f /\ (nodeAt ms i).id = (nodeAt ns i).id /\ (nodeAt ms i).parent = (nodeAt ns i).parent /\ (nodeAt ms i).kids = (nodeAt ns i).kids /\ (nodeAt ms i).su = (nodeAt ns i).su /\ (nodeAt ms i).more = (nodeAt ns i).more) (hF : Fam rock ns fs) : Fam rock ms fs := by
 have hp : ∀ i, parOf ms i = parOf ns i := fun i => (h i).2.2.1
 have hd : ∀ i, dirOf ms i = dirOf ns i := fun i => congrArg File.dir (h i).1
 have hk : ∀ i, kidsOf ms i = kidsOf ns i := fun i => (h i).2.2.2.1
 refine ⟨by rw [hl]; exact hF.len, ?_, ?_, ?_, ?_, ?_, ?_⟩
 . rw [(h 0).1, hp]; exact hF.root
 . intro k hk'; rw [(h _).1]; exact hF.file k hk'
 . intro k hk'; rw [(h _).1, (h _).2.1]; exact hF.id k hk'
 . intro k hk'; rw [(h (k + 1)).1, hp, hd, (h _).1]; exact hF.par k hk'
 . intro i hi k; rw [hk, hp, hl]; exact hF.kids i (by omega) k
 . intro i; rw [(h i).2.2.2.2.1, (h i).2.2.2.2.2]; exact hF.su i
theorem num_at {xs ys : List XNode} {ds : List Nat} (hn : Num xs ys ds) (i : Nat) : ∃ k, nodeAt (XNode.ns ys) i = { nodeAt (XNode.ns xs) i with number := k } /\ (i ∈ ds -> i < xs.length -> k = ds.idxOf i + 1) := by
 by_cases hi : i < xs.length
 . have hy : i < ys.length := by rw [hn.1]; exact hi
   refine ⟨if i ∈ ds then ds.idxOf i + 1 else xs[i].number, ?_, fun h _ => if_pos h⟩
   rw [nodeAt_ns ys i hy, nodeAt_ns xs i hi, hn.2 i hi hy]
 . have h1 : (XNode.ns ys).length <= i := by simp [XNode.ns, hn.1]; omega
   have h2 : (XNode.ns xs).length <= i := by simp [XNode.ns]; omega
   refine ⟨rootNode.number, ?_, fun _ h => absurd h hi⟩
   simp only [nodeAt, List.getD_eq_getElem?_getD, List.getElem?_eq_none h1, List.getElem?_eq_none h2]; rfl
theorem Holds.take {img : List UInt8} {off : Nat} {c : List UInt8} (h : Holds img off c) : (img.drop off).take c.length = c := by
 apply List.ext_getElem?
 intro j
 rw [List.getElem?_take]
 split
 . next hj => rw [List.getElem?_drop]; exact h j hj
 . next hj => rw [List.getElem?_eq_none (Nat.le_of_not_lt hj)]
theorem Holds.sub {img c d : List UInt8} {off k : Nat} (h : Holds img off c) (h2 : Holds c k d) (hl : k + d.length <= c.length) : Holds img (off + k) d := by
 intro j hj
 rw [Nat.add_assoc, h (k + j) (by omega), h2 j hj]
theorem fold_le (l : List Nat) (o : Nat) (h : ∀ b ∈ l, b <= 140) : l.foldl addLen o <= o + 2188 * l.length /\ o <= l.foldl addLen o := by
 induction l generalizing o with
 | nil => simp
 | cons b l ih =>
   have h1 := ih (addLen o b) (fun x hx => h x (by simp [hx]))
   have h2 := h b (by simp)
   have h3 : addLen o b <= o + 2188 /\ o <= addLen o b := by unfold addLen; split <;> omega
   simp only [List.foldl_cons, List.length_cons]; omega
theorem secUp_bd (n : Nat) : n <= secUp n /\ secUp n <= n + 2048 := by unfold secUp; split <;> omega
theorem self_len (ns : List Node) (i : Nat) : (selfR ns i).bytes.length = 34 := by unfold Rec.bytes; rw [isoRec_length]; show recLen 1 0 = 34; decide
theorem dirBytes_first (ns : List Node) (i : Nat) : ∃ t, dirBytes ns i = (selfR ns i).bytes ++ t := by
 unfold dirBytes
 rw [dirRecs_eq, recsOf_eq, List.map_cons, List.foldl_cons]
 have e : addRec [] (selfR ns i).bytes = (selfR ns i).bytes := by
  unfold addRec; rw [if_neg (by rw [self_len]; decide)]; rfl
 rw [e]
 obtain ⟨t, ht⟩ := recs_pre ((parR ns i :: (kidsOf ns i).map (kidR ns)).map Rec.bytes) (selfR ns i).bytes
 obtain ⟨u, hu⟩ := padSec_pre (((parR ns i :: (kidsOf ns i).map (kidR ns)).map Rec.bytes).foldl addRec (selfR ns i).bytes)
 exact ⟨t ++ u, by rw [hu, ht, List.append_assoc]⟩
theorem paths_bd (ms : List Node) (ds : List Nat) (h : ∀ d ∈ ds, (pathId ms d).length <= 14) : 8 * ds.length <= (pathsL ms true ds).length /\ (pathsL ms true ds).length <= 23 * ds.length := by
 rw [pathsL_length]
 induction ds with
 | nil => simp
 | cons d ds ih =>
   have h1 := ih (fun x hx => h x (by simp [hx]))
   have h2 := h d (by simp)
   have h3 : evn (pathId ms d).length <= 15 := by unfold evn; split <;> omega
   simp only [List.map_cons, List.sum_cons, List.length_cons]; omega
theorem ext_bd (ns : List Node) (nx : Nat) (l : List Nat) (h : ∀ i ∈ l, clen ns i <= 100000) : (ext ns nx l).2 <= nx + 49 * l.length := by
 induction l generalizing ns nx with
 | nil => exact Nat.le_refl _
 | cons i l ih =>
   have h1 := ih (setExt ns i nx (clen ns i)) (nx + blocks (clen ns i)) (fun j hj => by rw [(Like.setExt ns i nx _).clen]; exact h j (by simp [hj]))
   have h2 := h i (by simp)
   have h3 : blocks (clen ns i) <= 49 := by unfold blocks; omega
   simp only [ext, List.length_cons]; omega
structure Iso (fs : List File) (ms : List Node) (ds : List Nat) (img vol : List UInt8) (next pt : Nat) : Prop where
 fam : Fam false ms fs
 num : Numbered ms ds
 nod : ∀ i, (kidsOf ms i).Nodup
 isoD : IsoD img vol (selfR ms 0) pt 18 ms ds
 disk : Disk img ms
 kid : KidOk ms
 data : ∀ i, i < ms.length -> dirOf ms i = false -> (nodeAt ms i).size = (nodeAt ms i).f.data.size /\ (nodeAt ms i).extent * 2048 + (nodeAt ms i).size <= img.length /\ (img.drop ((nodeAt ms i).extent * 2048)).take (nodeAt ms i).size = (nodeAt ms i).f.data.data.toList
 len : img.length = next * 2048
 next : next <= 100000
theorem iso_of {fs : List File} {ns ks : List Node} {ds : List Nat} {img vol : List UInt8} {next : Nat} (hG : Good fs) (hf : ∀ f ∈ fs, FileOk f) (hm : addFiles false [rootNode] fs = some ns) (hv : vol.length <= 32) (hL : Laid ns vol ks ds next img) : ∃ pt, Iso fs ks ds img vol next pt := by
 obtain ⟨xs, ys, L, hS, hOk, hN, hQ, hLL, hext, himg⟩ := hL
 have hT := hS.tree (addFiles_tree hm Tree.root)
 have hFx := hS.fam (addFiles_fam hm (Fam.start false))
 rw [List.nil_append] at hFx
 have hxl : (XNode.ns xs).length = xs.length := by simp [XNode.ns]
 have hyl : (XNode.ns ys).length = xs.length := by simp [XNode.ns, hN.1]
 have hlike : Like (XNode.ns ys) ks := by have := ext_like (XNode.ns ys) (18 + blocks L + blocks L) (ds ++ filesTo (XNode.ns ys) xs.length); rw [hext] at this; exact this
 have hkl : ks.length = xs.length := by rw [hlike.len, hyl]
 have hat : ∀ i, ∃ e s k, nodeAt ks i = { nodeAt (XNode.ns xs) i with extent := e, size := s, number := k } /\ (i ∈ ds -> i < xs.length -> k = ds.idxOf i + 1) := by
  intro i
  obtain ⟨e, s, h1⟩ := hlike.node i
  obtain ⟨k, h2, h3⟩ := num_at hN i
  exact ⟨e, s, k, by rw [h1, h2], h3⟩
 have hFy : Fam false (XNode.ns ys) fs := Fam.same (by rw [hyl, hxl]) (fun i => by obtain ⟨k, h2, _⟩ := num_at hN i; rw [h2]; exact ⟨rfl, rfl, rfl, rfl, rfl, rfl⟩) hFx
 have hF : Fam false ks fs := Fam.same (by rw [hkl, hxl]) (fun i => by obtain ⟨e, s, k, h2, _⟩ := hat i; rw [h2]; exact ⟨rfl, rfl, rfl, rfl, rfl, rfl⟩) hFx
 have hfl := hF.len
 have hc := hG.count
 have hkd : ∀ i, kidsOf ks i = kidsOf (XNode.ns xs) i := fun i => by obtain ⟨e, s, k, h2, _⟩ := hat i; show (nodeAt ks i).kids = (nodeAt (XNode.ns xs) i).kids; rw [h2]
 have hnod : ∀ i, (kidsOf ks i).Nodup := by
  intro i
  rw [hkd]
  by_cases hi : i < xs.length
  . exact hT.nodup i (by omega)
  . rw [show kidsOf (XNode.ns xs) i = (nodeAt (XNode.ns xs) i).kids from rfl, out_node (by omega)]
    exact List.nodup_nil
 have hkc : ∀ i, (kidsOf ks i).length <= 100 := by
  intro i
  rw [hkd]
  by_cases hi : i < xs.length
  . show (nodeAt (XNode.ns xs) i).kids.length <= 100
    rw [nodeAt_ns xs i hi]
    exact (hOk.2 _ (List.getElem_mem hi)).kids
  . rw [show kidsOf (XNode.ns xs) i = (nodeAt (XNode.ns xs) i).kids from rfl, out_node (by omega)]
    simp [rootNode]
 have hdy : ∀ i, dirOf ks i = dirOf (XNode.ns ys) i := fun i => hlike.dir i
 have hdx : ∀ i, dirOf (XNode.ns ys) i = dirOf (XNode.ns xs) i := fun i => dirOf_num hN i
 have hdd := (order_ok hm hS (Sim.refl _) hN hQ).2.2
 have hNum : Numbered ks ds := by
  refine ⟨fun i => ⟨fun hi => ⟨by have := hQ.lt i hi; omega, by rw [hdy]; exact hdd i hi⟩, fun ⟨h1, h2⟩ => hQ.all hFx (i + 1) i (Nat.lt_succ_self i) (by omega) (by rw [<- hdx, <- hdy]; exact h2)⟩, hQ.nodup, hQ.head, fun k hk => ?_⟩
  obtain ⟨e, s, n, h2, h3⟩ := hat k
  rw [h2]
  exact h3 hk (by have := hQ.lt k hk; omega)
 have hid : ∀ k, 0 < k -> k < ks.length -> Plain (nam ks k) /\ (nodeAt ks k).id.data.toList = nam ks k ++ (if dirOf ks k then [] else [59, 49]) := by
  intro k h0 hk
  have h1 := nam_plain hG hF (k - 1) (by omega)
  have h2 := id_plain hF (k - 1) (by omega)
  rw [show k - 1 + 1 = k by omega] at h1 h2
  exact ⟨h1, h2⟩
 have hidl : ∀ k, 0 < k -> k < ks.length -> 1 <= (nodeAt ks k).id.data.toList.length /\ (nodeAt ks k).id.data.toList.length <= 14 := by
  intro k h0 hk
  obtain ⟨h1, h2⟩ := hid k h0 hk
  have h3 := h1.len
  have h4 : 1 <= (nam ks k).length := List.length_pos_iff.2 h1.good.ne
  rw [h2, List.length_append]
  split <;> simp <;> omega
 have hpid : ∀ d ∈ ds, 1 <= (pathId ks d).length /\ (pathId ks d).length <= 14 := by
  intro d hd
  unfold pathId
  split
  . decide
  . next h0 => exact hidl d (by omega) ((hNum.mem d).1 hd).1
 have hkm : ∀ i, ∀ k ∈ kidsOf ks i, 0 < k /\ k < ks.length := by
  intro i k hk
  by_cases hi : i < ks.length
  . have := (hF.kids i hi k).1 hk; exact ⟨this.1, this.2.1⟩
  . rw [show kidsOf ks i = (nodeAt ks i).kids from rfl, out_node (by omega)] at hk
    cases hk
 have hdl : ∀ i, 68 <= (dirBytes ks i).length /\ (dirBytes ks i).length <= 100000 := by
  intro i
  rw [dirBytes_length]
  have hb : ∀ b ∈ (kidsOf ks i).map (fun k => recLen (nodeAt ks k).id.data.toList.length (nodeAt ks k).su.length), b <= 140 := by
   intro b hb
   obtain ⟨k, hk, rfl⟩ := List.mem_map.1 hb
   obtain ⟨h1, h2⟩ := hkm i k hk
   obtain ⟨h3, h4⟩ := hidl k h1 h2
   rw [(hF.su k).1]
   exact (recLen_bd _ h3 (by omega)).2
  have h1 := fold_le _ (addLen (addLen 0 34) 34) hb
  have h2 := hkc i
  have h3 := secUp_bd ((34 :: 34 :: (kidsOf ks i).map (fun k => recLen (nodeAt ks k).id.data.toList.length (nodeAt ks k).su.length)).foldl addLen 0)
  have h4 : addLen (addLen 0 34) 34 = 68 := by decide
  simp only [List.foldl_cons] at h3 ⊢
  rw [List.length_map] at h1
  rw [h4] at h1 h3 ⊢
  have hkx : (kidsOf ks i).length <= 41 := by
   have := List.Nodup.length_le_of_subset (hnod i) (l₂ := List.range ks.length) (fun x hx => List.mem_range.2 (hkm i x hx).2)
   rw [List.length_range] at this
   omega
  omega
 have hcl : ∀ i, i < ks.length -> clen ks i <= 100000 := by
  intro i hi
  unfold clen
  split
  . exact (hdl i).2
  . next hd =>
    have h0 : 0 < i := by
     rcases Nat.eq_zero_or_pos i with h | h
     . subst h
       exfalso; apply hd
       show (nodeAt ks 0).f.dir = true
       rw [hF.root.1]; rfl
     . exact h
    have := hF.mem (i - 1) (by omega)
    rw [show i - 1 + 1 = i by omega] at this
    have := (hf _ this).data
    omega
 obtain ⟨ho1, ho2, _⟩ := order_ok hm hS (Sim.refl _) hN hQ
 have hpl : ds.length <= 41 := by have := hQ.le; omega
 have hLk : (pathsL ks true ds).length = L := by rw [hLL, pathsL_like hlike true true]
 have hLb := paths_bd ks ds (fun d hd => (hpid d hd).2)
 rw [hLk] at hLb
 have hd1 := hQ.head.1
 have hLbl : blocks L = 1 := by unfold blocks; omega
 have hol : (ds ++ filesTo (XNode.ns ys) xs.length).length <= 41 := by
  have := List.Nodup.length_le_of_subset ho1 (l₂ := List.range xs.length) (fun x hx => List.mem_range.2 ((ho2 x).1 hx))
  rw [List.length_range] at this
  omega
 have hnb := ext_bd (XNode.ns ys) (18 + blocks L + blocks L) (ds ++ filesTo (XNode.ns ys) xs.length) (fun i hi => by rw [<- hlike.clen]; exact hcl i (by rw [hkl]; exact (ho2 i).1 hi))
 rw [hext] at hnb
 simp only at hnb
 have hea : ∀ i, i < ks.length -> 20 <= (nodeAt ks i).extent /\ (nodeAt ks i).size = clen ks i /\ (nodeAt ks i).extent + blocks (clen ks i) <= next := by
  intro i hi
  have := ext_at (XNode.ns ys) (18 + blocks L + blocks L) _ ho1 (fun j hj => by rw [hyl]; exact (ho2 j).1 hj) i ((ho2 i).2 (by omega))
  rw [hext] at this
  simp only at this
  rw [hlike.clen]
  exact ⟨by omega, this.2⟩
 obtain ⟨hI, hnx⟩ := image_has (XNode.ns ys) (ds ++ filesTo (XNode.ns ys) xs.length) (pvdB vol (isoRec [0] (nodeAt ks 0).extent (nodeAt ks 0).size (nodeAt ks 0).f.time true []) next L 18 (18 + blocks L)) term7 (pathsL ks true ds) (pathsL ks false ds) ho1 (fun i => by rw [hyl]; exact ho2 i) (pvdB_length _ _ _ _ _ _ hv (isoRec_length _ _ _ _ _ _)) (by decide) (by rw [pathsL_like (Like.refl ks) false true]) ks next (by rw [hLk]; exact hext)
 rw [<- himg] at hI
 have hlen := hI.len
 have h0l : 0 < ks.length := by omega
 have hroot : dirOf ks 0 = true := by show (nodeAt ks 0).f.dir = true; rw [hF.root.1]; rfl
 have hex : ∀ i, (nodeAt ks i).extent < 400000 := by
  intro i
  by_cases hi : i < ks.length
  . have := hea i hi; omega
  . rw [out_node (by omega)]; decide
 have hsz : ∀ i, (nodeAt ks i).size <= 100000 := by
  intro i
  by_cases hi : i < ks.length
  . rw [(hea i hi).2.1]; exact hcl i hi
  . rw [out_node (by omega)]; decide
 have hnu : ∀ i, (nodeAt ks i).number < 65536 := by
  intro i
  by_cases hi : i < ks.length
  . obtain ⟨e, s, k, h2, h3⟩ := hat i
    rw [h2]
    show k < 65536
    by_cases hd : i ∈ ds
    . rw [h3 hd (by omega)]
      have := List.idxOf_le_length (a := i) (l := ds); omega
    . obtain ⟨e', s', h4⟩ := hlike.node i
      have h5 : k = (nodeAt (XNode.ns ys) i).number := by
       have : (nodeAt ks i).number = k := by rw [h2]
       rw [<- this, h4]
      have hiy : i < ys.length := by rw [hN.1]; omega
      rw [h5, nodeAt_ns ys i hiy, hN.2 i (by omega) hiy]
      show (if i ∈ ds then ds.idxOf i + 1 else xs[i].number) < 65536
      rw [if_neg hd]
      have := (hOk.2 _ (List.getElem_mem (show i < xs.length by omega))).num
      omega
  . rw [out_node (by omega)]; decide
 have hself : ∀ i, (selfR ks i).Ok := fun i => ⟨by simp [selfR], by simp [selfR], by have := hex i; show (nodeAt ks i).extent < _; omega, by have := hsz i; show (nodeAt ks i).size < _; omega, rfl⟩
 have hpar : ∀ i, (parR ks i).Ok := fun i => ⟨by simp [parR], by simp [parR], by have := hex (parOf ks i); show (nodeAt ks (parOf ks i)).extent < _; omega, by have := hsz (parOf ks i); show (nodeAt ks (parOf ks i)).size < _; omega, rfl⟩
 have hkid : ∀ i, ∀ k ∈ kidsOf ks i, (kidR ks k).Ok := by
  intro i k hk
  obtain ⟨h1, h2⟩ := hkm i k hk
  obtain ⟨h3, h4⟩ := hidl k h1 h2
  exact ⟨h3, by show (nodeAt ks k).id.data.toList.length <= 100; omega, by have := hex k; show (nodeAt ks k).extent < _; omega, by have := hsz k; show (nodeAt ks k).size < _; omega, (hF.su k).1⟩
 have hrec : ∀ i, ∀ r ∈ recsOf ks i, r.Ok := by
  intro i r hr
  rw [recsOf_eq] at hr
  rcases List.mem_cons.1 hr with rfl | hr
  . exact hself i
  . rcases List.mem_cons.1 hr with rfl | hr
    . exact hpar i
    . obtain ⟨k, hk, rfl⟩ := List.mem_map.1 hr
      exact hkid i k hk
 have hnode := hI.node
 have hcont : ∀ i, dirOf ks i = true -> content ks i = dirBytes ks i := fun i hd => by unfold content; rw [if_pos hd]
 have hclen : ∀ i, dirOf ks i = true -> clen ks i = (dirBytes ks i).length := fun i hd => by unfold clen; rw [if_pos hd]
 have hfit : ∀ i, i < ks.length -> (nodeAt ks i).extent * 2048 + (nodeAt ks i).size <= img.length := by
  intro i hi
  obtain ⟨h1, h2, h3⟩ := hea i hi
  have := blocks_le (clen ks i)
  rw [h2, hlen]; omega
 have htake : ∀ i, i < ks.length -> (img.drop ((nodeAt ks i).extent * 2048)).take (nodeAt ks i).size = content ks i := by
  intro i hi
  have h := (hnode i hi).take
  rw [content_length, <- (hea i hi).2.1] at h
  exact h
 have hfirst : ∀ i, i < ks.length -> dirOf ks i = true -> Holds img ((nodeAt ks i).extent * 2048) (selfR ks i).bytes := by
  intro i hi hd
  obtain ⟨t, ht⟩ := dirBytes_first ks i
  have h := hnode i hi
  rw [hcont i hd, ht] at h
  intro j hj
  rw [h j (by rw [List.length_append]; omega), List.getElem?_append_left hj]
 have hDisk : Disk img ks := by
  refine ⟨by rw [hlen]; omega, hex, fun i hi => by have := (hea i hi).1; omega, hnu, fun i hi _ => hfit i hi, fun i hi hd => ?_, fun i hi hd => ?_, fun i hi hd => ?_, fun i hi hd => ?_, fun i hi hd => ?_, fun i hi hd => hrec i, fun i hi => ?_⟩
  . rw [(hea i hi).2.1, hclen i hd]; have := hdl i; omega
  . rw [(hea i hi).2.1, hclen i hd]
  . rw [htake i hi, hcont i hd]
  . have h := hfirst i hi hd
    have hh := (selfR ks i).has (hself i)
    have h4 : Holds (selfR ks i).bytes 10 [u8 (nodeAt ks i).size, u8 ((nodeAt ks i).size / 256), u8 ((nodeAt ks i).size / 65536), u8 ((nodeAt ks i).size / 16777216)] := by
     intro j hj
     rcases j with _ | _ | _ | _ | j
     . exact hh.s0
     . exact hh.s1
     . exact hh.s2
     . exact hh.s3
     . exfalso; simp only [List.length_cons, List.length_nil] at hj; omega
    exact (h.sub h4 (by rw [self_len]; simp)).take
  . rw [<- dirRecs_eq]
    refine dirBytes_recs ks i (fun r hr => ?_)
    rw [dirRecs_eq] at hr
    obtain ⟨q, hq, rfl⟩ := List.mem_map.1 hr
    have ho := hrec i q hq
    rw [q.bytes_len ho]
    have := (recLen_bd _ ho.id1 ho.id2).2
    omega
  . rw [recsOf_eq]
    have := hkc i
    simp only [List.length_cons, List.length_map]; omega
 have hKid : KidOk ks := by
  refine ⟨fun i hi k hk => ?_, fun i hi k hk h59 => ?_⟩
  . obtain ⟨h1, h2⟩ := hkm i k hk
    obtain ⟨h3, h4⟩ := hid k h1 h2
    have hne := h3.good.ne
    obtain ⟨c, l, hcl'⟩ : ∃ c l, nam ks k = c :: l := by
     cases hh : nam ks k with
     | nil => exact absurd hh hne
     | cons c l => exact ⟨c, l, rfl⟩
    have hc2 := (h3.asc c (by rw [hcl']; simp)).1
    rw [h4, hcl']
    constructor <;> intro e <;> simp only [List.cons_append, List.cons.injEq] at e <;> rw [e.1] at hc2 <;> exact absurd hc2 (by decide)
  . obtain ⟨h1, h2⟩ := hkm i k hk
    obtain ⟨h3, h4⟩ := hid k h1 h2
    refine ⟨?_, h2⟩
    cases hd : dirOf ks k with
    | true => rfl
    | false => rw [hd] at h4; exact absurd (by rw [h4]; simp) h59
 refine ⟨L, hF, hNum, hnod, ?_, hDisk, hKid, fun i hi hd => ?_, hlen, by omega⟩
 . have hp0 := hI.pvd
   have hp1 := hp0.take
   rw [pvdB_length _ _ _ _ _ _ hv (isoRec_length _ _ _ _ _ _)] at hp1
   have ht0 := hI.term
   have hl0 := hI.pl.take
   rw [hLk] at hl0
   have he0 := hea 0 h0l
   have hb0 : 1 <= blocks (clen ks 0) := by rw [hclen 0 hroot]; have := hdl 0; unfold blocks; omega
   refine ⟨⟨by rw [hlen]; omega, by rw [hlen]; omega, ?_, ?_, hself 0, rfl, hv, hLk.symm, ⟨by omega, by omega⟩, by rw [hlen]; omega, hl0, by decide, ⟨by omega, by omega⟩, fun d hd => by have := hpid d hd; omega, hex, hnu, rfl, rfl⟩, ?_⟩
   . rw [show 32768 = 16 * 2048 from rfl, hp1]
     exact pvd_has vol _ next L 18 _ hv (isoRec_length _ _ _ _ _ _)
   . intro j hj
     rw [List.getElem?_take, if_pos (by rw [show ([255, 67, 68, 48, 48, 49, 1] : List UInt8).length = 7 from rfl] at hj; omega), List.getElem?_drop]
     have := ht0 j hj
     rw [Nat.zero_add]
     exact this
   . refine ⟨selfR ks 0, hself 0, self_len ks 0, ?_, ?_⟩
     . have := hfit 0 h0l
       have h2 := he0.2.1
       rw [hclen 0 hroot] at h2
       have h3 := hdl 0
       omega
     . have := (hfirst 0 h0l hroot).take
       rw [self_len] at this
       exact this
 . have h1 := (hea i hi).2.1
   have h2 : clen ks i = (nodeAt ks i).f.data.size := by unfold clen; rw [if_neg (by rw [hd]; decide)]
   refine ⟨by rw [h1, h2], hfit i hi, ?_⟩
   rw [htake i hi]
   unfold content
   rw [if_neg (by rw [hd]; decide)]
theorem mem_areaLay {ks : List Node} {area i : Nat} {x : Nat × List UInt8} (h : x ∈ areaLay true ks area i) : (i = 0 /\ x = (area * 2048 + (nodeAt ks 0).place, erB)) \/ (0 < i /\ (nodeAt ks i).more ≠ [] /\ x = (area * 2048 + (nodeAt ks i).place, (nodeAt ks i).more)) := by
 unfold areaLay at h
 split at h
 . next e => exact .inl ⟨e.1, by simpa using h⟩
 . next e =>
   split at h
   . cases h
   . next e2 => exact .inr ⟨Nat.pos_of_ne_zero (fun h0 => e ⟨h0, rfl⟩), e2, by simpa using h⟩
theorem er_len : erB.length = 157 := by unfold erB; rw [suspB_len]; rfl
structure ImageHasX (img : List UInt8) (ks : List Node) (area next : Nat) (pvd term pl : List UInt8) : Prop where
 len : img.length = next * 2048
 pvd : Holds img (16 * 2048) pvd
 term : Holds img (17 * 2048) term
 pl : Holds img (18 * 2048) pl
 node : ∀ i, i < ks.length -> Holds img ((nodeAt ks i).extent * 2048) (contentR true area ks i)
 er : Holds img (area * 2048 + (nodeAt ks 0).place) erB
 more : ∀ i, 0 < i -> i < ks.length -> (nodeAt ks i).more ≠ [] -> Holds img (area * 2048 + (nodeAt ks i).place) (nodeAt ks i).more
theorem imageX_has (c : Nat -> Nat) (ks : List Node) (area abytes next : Nat) (pvd term pl pb : List UInt8) (h0 : 0 < ks.length) (hP : Placed ks c (18 + blocks pl.length + blocks pl.length) area (blocks abytes) next) (hA : AreaOk ks abytes) (hc : ∀ i, i < ks.length -> (contentR true area ks i).length = c i)
 (hpvd : pvd.length = 2048) (hterm : term.length <= 2048) (hlen : pb.length = pl.length) : ImageHasX (imageR true ks area next pvd term pl pb) ks area next pvd term pl := by
 have hbl := blocks_le pl.length
 have hba := blocks_le abytes
 have hlo := hP.lo
 have hhi := hP.hi
 have hnode : ∀ i, i < ks.length -> (18 + blocks pl.length + blocks pl.length) * 2048 <= (nodeAt ks i).extent * 2048 /\ (nodeAt ks i).extent * 2048 + (contentR true area ks i).length <= next * 2048 /\ ((nodeAt ks i).extent * 2048 + (contentR true area ks i).length <= area * 2048 \/ (area + blocks abytes) * 2048 <= (nodeAt ks i).extent * 2048) := by
  intro i hi
  have h1 := hP.at' i hi
  have h2 := blocks_le (c i)
  rw [hc i hi]
  omega
 have harea : ∀ i, i < ks.length -> ∀ x ∈ areaLay true ks area i, area * 2048 <= x.1 /\ x.1 + x.2.length <= (area + blocks abytes) * 2048 := by
  intro i hi x hx
  have her := hA.er
  rcases mem_areaLay hx with ⟨_, rfl⟩ | ⟨hi0, hm, rfl⟩
  . simp only [er_len]; omega
  . have := hA.one i hi0 hi hm; simp only; omega
 have hmem : ∀ x ∈ laysR true ks area pvd term pl pb, x = (16 * 2048, pvd) \/ x = (17 * 2048, term) \/ x = (18 * 2048, pl) \/ x = ((18 + blocks pl.length) * 2048, pb) \/ (∃ i, i < ks.length /\ x = ((nodeAt ks i).extent * 2048, contentR true area ks i)) \/ ∃ i, i < ks.length /\ x ∈ areaLay true ks area i := by
  intro x hx
  simp only [laysR, nodeLaysR, areaLays, List.mem_append, List.mem_cons, List.not_mem_nil, or_false, List.mem_map, List.mem_flatMap, List.mem_range] at hx
  rcases hx with ((h | h | h | h) | ⟨i, hi, rfl⟩) | h
  . exact .inl h
  . exact .inr (.inl h)
  . exact .inr (.inr (.inl h))
  . exact .inr (.inr (.inr (.inl h)))
  . exact .inr (.inr (.inr (.inr (.inl ⟨i, hi, rfl⟩))))
  . exact .inr (.inr (.inr (.inr (.inr h))))
 have hfit : ∀ x ∈ laysR true ks area pvd term pl pb, x.1 + x.2.length <= (zeros (next * 2048)).length := by
  intro x hx
  rw [zeros_length]
  rcases hmem x hx with rfl | rfl | rfl | rfl | ⟨i, hi, rfl⟩ | ⟨i, hi, hx⟩
  . simp only; omega
  . simp only; omega
  . simp only; omega
  . simp only; omega
  . exact (hnode i hi).2.1
  . have := harea i hi x hx; omega
 have hpw : (laysR true ks area pvd term pl pb).Pairwise Apart2 := by
  unfold laysR
  rw [List.pairwise_append, List.pairwise_append]
  refine ⟨⟨?_, ?_, ?_⟩, ?_, ?_⟩
  . simp only [List.pairwise_cons, List.mem_cons, List.not_mem_nil, or_false, List.Pairwise.nil, and_true]
    refine ⟨?_, ?_, ?_, by simp⟩
    . rintro x (rfl | rfl | rfl) <;> simp only [Apart2] <;> omega
    . rintro x (rfl | rfl) <;> simp only [Apart2] <;> omega
    . rintro x rfl; simp only [Apart2]; omega
  . unfold nodeLaysR
    rw [List.pairwise_map]
    refine List.Pairwise.imp_of_mem ?_ (List.nodup_range)
    intro i j hi hj hij
    rw [List.mem_range] at hi hj
    have h1 := hP.apart i j hi hj hij
    have h2 := blocks_le (c i)
    have h3 := blocks_le (c j)
    simp only [Apart2]
    rw [hc i hi, hc j hj]
    omega
  . intro x hx y hy
    simp only [nodeLaysR, List.mem_map, List.mem_range] at hy
    obtain ⟨i, hi, rfl⟩ := hy
    have := hnode i hi
    simp only [List.mem_cons, List.not_mem_nil, or_false] at hx
    rcases hx with rfl | rfl | rfl | rfl <;> simp only [Apart2] <;> omega
  . unfold areaLays
    rw [List.pairwise_flatMap]
    constructor
    . intro i hi
      unfold areaLay
      split
      . exact List.pairwise_singleton _ _
      . split
        . exact List.Pairwise.nil
        . exact List.pairwise_singleton _ _
    . refine List.Pairwise.imp_of_mem ?_ (List.pairwise_lt_range)
      intro i j hi hj hij x hx y hy
      rw [List.mem_range] at hi hj
      rcases mem_areaLay hx with ⟨i0, rfl⟩ | ⟨i0, im, rfl⟩ <;> rcases mem_areaLay hy with ⟨j0, rfl⟩ | ⟨j0, jm, rfl⟩
      . omega
      . have := hA.one j j0 hj jm; simp only [Apart2]; omega
      . omega
      . have := hA.two i j i0 hij hj im jm; simp only [Apart2]; omega
  . intro x hx y hy
    simp only [areaLays, List.mem_flatMap, List.mem_range] at hy
    obtain ⟨j, hj, hy⟩ := hy
    have h1 := harea j hj y hy
    rw [List.mem_append] at hx
    rcases hx with hx | hx
    . simp only [List.mem_cons, List.not_mem_nil, or_false] at hx
      rcases hx with rfl | rfl | rfl | rfl <;> simp only [Apart2] <;> omega
    . simp only [nodeLaysR, List.mem_map, List.mem_range] at hx
      obtain ⟨i, hi, rfl⟩ := hx
      have := hnode i hi
      simp only [Apart2]; omega
 have hh := putAll_holds (laysR true ks area pvd term pl pb) (zeros (next * 2048)) hfit hpw
 have hr : ∀ i, i < ks.length -> ∀ x ∈ areaLay true ks area i, x ∈ laysR true ks area pvd term pl pb := by
  intro i hi x hx
  unfold laysR areaLays
  rw [List.mem_append]
  exact .inr (List.mem_flatMap.2 ⟨i, List.mem_range.2 hi, hx⟩)
 refine ⟨?_, ?_, ?_, ?_, ?_, ?_, ?_⟩
 . exact (putAll_length _ _ hfit).trans (zeros_length _)
 . exact hh (16 * 2048, pvd) (by simp [laysR])
 . exact hh (17 * 2048, term) (by simp [laysR])
 . exact hh (18 * 2048, pl) (by simp [laysR])
 . intro i hi
   refine hh ((nodeAt ks i).extent * 2048, contentR true area ks i) ?_
   unfold laysR nodeLaysR
   rw [List.mem_append, List.mem_append]
   exact .inl (.inr (List.mem_map.2 ⟨i, List.mem_range.2 hi, rfl⟩))
 . exact hh _ (hr 0 h0 (area * 2048 + (nodeAt ks 0).place, erB) (by simp [areaLay]))
 . intro i hi0 hi hm
   exact hh _ (hr i hi (area * 2048 + (nodeAt ks i).place, (nodeAt ks i).more) (by unfold areaLay; rw [if_neg (fun h => by omega), if_neg hm]; simp))
theorem pts_ne (ms : List Node) (i : Nat) (h0 : i ≠ 0) : pts ms i ≠ [] := by unfold pts; rw [if_neg h0]; exact els_ne _
theorem trimS_hit (a p : List UInt8) : Lib.trimSuffix (a ++ p) p = a := by
 unfold Lib.trimSuffix
 have h : Lib.hasSuffix (a ++ p) p = true := by simp [Lib.hasSuffix]
 rw [if_pos h]
 simp
theorem trimS_dot (a : List UInt8) (h : a.getLast? ≠ some 46) : Lib.trimSuffix a [46] = a := by
 unfold Lib.trimSuffix
 rw [if_neg]
 intro h2
 apply h
 have h3 : ([46] : List UInt8) <:+ a := by simpa [Lib.hasSuffix] using h2
 obtain ⟨t, rfl⟩ := h3
 simp
theorem trimP_dot (a : List UInt8) (h : a.head? ≠ some 46) : Lib.trimPrefix a [46] = a := by
 unfold Lib.trimPrefix
 rw [if_neg]
 intro h2
 apply h
 have h3 : ([46] : List UInt8) <+: a := by simpa [Lib.hasPrefix] using h2
 obtain ⟨t, rfl⟩ := h3
 simp
structure Tr0 (fs : List File) (ms : List Node) (ds : List Nat) (img : List UInt8) : Prop where
 good : Good fs
 fam : Fam false ms fs
 num : Numbered ms ds
 disk : Disk img ms
 kid : KidOk ms
section
variable {fs : List File} {ms : List Node} {ds : List Nat} {img : List UInt8}
theorem Tr0.h0 (T : Tr0 fs ms ds img) : 0 < ms.length := by have := T.fam.len; omega
theorem Tr0.root (T : Tr0 fs ms ds img) : dirOf ms 0 = true := by show (nodeAt ms 0).f.dir = true; rw [T.fam.root.1]; rfl
theorem Tr0.x32 (T : Tr0 fs ms ds img) (d : Nat) : (nodeAt ms d).extent < 4294967296 := by have := T.disk.ext d; omega
theorem Tr0.read (T : Tr0 fs ms ds img) (F M D PT RD : Nat) (w : World) (hW : FsW w F M D PT RD img ms ds) :
 Calls Tryz.prog 85 #[PB F, SV [46]] w fun e w' => DirR w w' F (recsOf ms 0) e :=
 readDirectory_ok F _ _ w hW.jol (readPVD_pt F M D PT RD 0 img ms ds _ w hW T.disk T.h0 T.root (fun U hu => ptLoc_dot PT ms ds U (hW.later hu).ptat T.num.head.1 T.num.head.2 (T.x32 0)))
theorem Tr0.list (T : Tr0 fs ms ds img) (F M D PT RD : Nat) (w : World) (hW : FsW w F M D PT RD img ms ds) (hT : Tabs w) :
 Calls Tryz.prog 63 #[PB F, SV [46]] w fun e w' => ListR w w' F (tellR (recsOf ms 0)) e :=
 readDir_any F _ (recsOf ms 0) w hW.lt hW.work (T.disk.cnt 0 T.h0) (vpath_dot w hT) (fun W hb => T.read F M D PT RD W (hW.later hb))
theorem Tr0.tell (T : Tr0 fs ms ds img) (i : Nat) (hi : i < ms.length) : tellR (recsOf ms i) = (kidsOf ms i).map (kidR ms) := by
 rw [recsOf_eq]
 unfold tellR
 have h1 : ((selfR ms i).self || (selfR ms i).par) = true := rfl
 have h2 : ((parR ms i).self || (parR ms i).par) = true := rfl
 rw [List.filter_cons, h1, List.filter_cons, h2]
 simp only [Bool.not_true, Bool.false_eq_true, if_false]
 rw [List.filter_eq_self]
 intro r hr
 obtain ⟨k, hk, rfl⟩ := List.mem_map.1 hr
 obtain ⟨_, h3, h4⟩ := kid_rname T.kid hi hk
 rw [h3, h4]; rfl
theorem Tr0.kidm (T : Tr0 fs ms ds img) (i k : Nat) (hi : i < ms.length) (hk : k ∈ kidsOf ms i) : 0 < k /\ k < ms.length /\ parOf ms k = i := (T.fam.kids i hi k).1 hk
theorem Tr0.namP (T : Tr0 fs ms ds img) (k : Nat) (h0 : 0 < k) (hk : k < ms.length) : Plain (nam ms k) := by
 have hl := T.fam.len
 have h1 := nam_plain T.good T.fam (k - 1) (by omega)
 rw [show k - 1 + 1 = k by omega] at h1
 exact h1
theorem Tr0.told (T : Tr0 fs ms ds img) (i k : Nat) (hi : i < ms.length) (hk : k ∈ kidsOf ms i) : (kidR ms k).told = ofL (nam ms k) := by
 obtain ⟨h1, h2, h3⟩ := T.kidm i k hi hk
 have hl := T.fam.len
 have hid := id_plain T.fam (k - 1) (by omega)
 have hpl := T.namP k h1 h2
 rw [show k - 1 + 1 = k by omega] at hid
 have hnm := (kid_rname T.kid hi hk).1
 unfold Rec.told
 rw [hnm, hid]
 have hd : (kidR ms k).d = dirOf ms k := rfl
 rw [hd]
 cases hdd : dirOf ms k with
 | true => simp
 | false =>
   simp only [Bool.false_eq_true, if_false]
   rw [trimS_hit, trimS_dot _ hpl.last, trimP_dot _ hpl.head]
theorem Tr0.stat (T : Tr0 fs ms ds img) (F M D PT RD : Nat) (bn : List UInt8) (w : World) (hbn : GoodPart bn) (hbl : bn.length <= 100) (hW : FsW w F M D PT RD img ms ds) (hT : Tabs w) :
 Calls Tryz.prog 64 #[PB F, SV bn] w fun e w' => StatR w w' F ((kidsOf ms 0).map (kidR ms)) bn e := by
 have hsz : (ofL bn).size <= 1001 := by rw [size_ofL]; omega
 have hj : joinP ([] ++ [bn]) = bn := by rw [List.nil_append, joinP_one]
 rw [<- T.tell 0 T.h0]
 refine stat_any F (ofL bn) (ofL [46]) bn (tellR (recsOf ms 0)) w hW.p hbn.dot ?_ ?_ (fun W => ?_) (fun W => ?_) (fun W hb => T.list F M D PT RD W (hW.later hb) (hT.later hb))
 . exact Nat.le_trans (List.length_filter_le _ _) (T.disk.cnt 0 T.h0)
 . intro r hr
   have ho := T.disk.ok 0 T.h0 T.root r (List.mem_filter.1 hr).1
   unfold Rec.name
   split
   . decide
   . rw [size_ofL]; have := ho.id2; omega
 . have h1 := Tryz.path_Dir_rules (ofL bn) W (by omega)
   have h2 := dir_join [] bn (by simp) hbn
   rw [if_pos rfl, hj] at h2
   rw [show (ofL bn).data.toList = bn from rfl, h2] at h1
   exact h1
 . have h1 := Tryz.path_Base (ofL bn) W (by omega)
   have h2 := base_join [] bn hbn
   rw [hj] at h2
   rw [show (ofL bn).data.toList = bn from rfl, h2] at h1
   exact h1
end
def fA : File := ⟨⟨#[65, 46, 84, 88, 84]⟩, false, ⟨#[120]⟩, ⟨#[]⟩, 0, 0, 0, 0⟩
theorem fA_els : Lib.Pa.els fA.p = [[65, 46, 84, 88, 84]] := els_one _ (by decide)
theorem fA_cut : cutLast fA.p = ([], [65, 46, 84, 88, 84]) := by decide
theorem fA_name : PlainName [65, 46, 84, 88, 84] := ⟨by decide, by decide, by decide, by decide⟩
theorem good_one : Good [fA] := by
 refine ⟨by decide, ?_, ?_, ?_⟩
 . intro f hf s hs
   rw [List.mem_singleton] at hf; subst hf
   rw [fA_els, List.mem_singleton] at hs; subst hs
   exact fA_name.plain
 . intro k hk
   have : k = 0 := by simpa using hk
   subst this
   show (cutLast fA.p).2 ≠ [] /\ ((cutLast fA.p).1 = [] \/ _)
   rw [fA_cut]
   exact ⟨by simp, .inl rfl⟩
 . intro i j hi hj _
   have : i = 0 := by simpa using hi
   have : j = 0 := by simpa using hj
   omega
section
variable {ms : List Node} {ds : List Nat} {img vol : List UInt8} {next pt : Nat}
theorem one_node (h : Iso [fA] ms ds img vol next pt) : ms.length = 2 /\ (nodeAt ms 1).f = fA /\ kidsOf ms 0 = [1] /\ dirOf ms 1 = false /\ nam ms 1 = [65, 46, 84, 88, 84] := by
 have hl : ms.length = 2 := h.fam.len
 have hf : (nodeAt ms 1).f = fA := by
  have := h.fam.file 0 (by decide)
  exact (Option.some.inj this).symm
 have hp := (h.fam.par 0 (by decide)).1
 have hp0 : parOf ms 1 = 0 := by have : parOf ms (0 + 1) < 0 + 1 := hp; simpa using this
 refine ⟨hl, hf, ?_, by show (nodeAt ms 1).f.dir = false; rw [hf]; rfl, by unfold nam; rw [hf, fA_cut]⟩
 have hm : ∀ k, k ∈ kidsOf ms 0 ↔ k = 1 := by
  intro k
  rw [h.fam.kids 0 (by omega)]
  constructor
  . rintro ⟨h1, h2, _⟩; omega
  . rintro rfl; exact ⟨by decide, by omega, hp0⟩
 have hn := h.nod 0
 cases hk : kidsOf ms 0 with
 | nil => have := (hm 1).2 rfl; rw [hk] at this; cases this
 | cons a l =>
   have ha := (hm a).1 (by rw [hk]; simp)
   cases l with
   | nil => rw [ha]
   | cons b l =>
     have hb := (hm b).1 (by rw [hk]; simp)
     rw [hk, ha, hb] at hn
     simp at hn
theorem walk_one (h : Iso [fA] ms ds img vol next pt) (E : Addr) (F M D PT RD Bc : Nat) (w : World) (hW : FsW w F M D PT RD img ms ds) (hBc : w.cell? ⟨Bc, 0, none⟩ = some (PB F)) (hT : Tabs w) (hG : w.cell? ⟨0, 0, none⟩ = some (EofV E)) :
 Calls Tryz.prog 71 #[RoadsV F Bc, .string ⟨#[46]⟩, .slice none 0 0] w fun e w' => ∃ g c, e = .returned (.tuple #[.slice (some ⟨g, 0, none⟩) 1 c, .bool true]) /\ w'.cell? ⟨g, 14, none⟩ = some (.string ⟨#[120]⟩) /\ Below w.heap.size w w' := by
 have T : Tr0 [fA] ms ds img := ⟨good_one, h.fam, h.num, h.disk, h.kid⟩
 obtain ⟨hl, hf, hk, hd, hnam⟩ := one_node h
 have hi : 1 < ms.length := by omega
 have hk1 : 1 ∈ kidsOf ms 0 := by rw [hk]; simp
 have ho := T.disk.ok 0 T.h0 T.root (kidR ms 1) (by rw [recsOf_eq]; simp only [List.mem_cons, List.mem_map]; exact .inr (.inr ⟨1, hk1, rfl⟩))
 have htold : (kidR ms 1).told = fA.path := by rw [T.told 0 1 T.h0 hk1, hnam]; rfl
 have hgp : GoodPart [65, 46, 84, 88, 84] := fA_name.plain.good
 obtain ⟨hz1, hz2, hz3⟩ := h.data 1 hi hd
 rw [hf] at hz1 hz3
 have hz1 : (nodeAt ms 1).size = 1 := hz1
 rw [hz1] at hz2 hz3
 have h63 : ∀ W, Below w.heap.size w W -> Calls Tryz.prog 63 #[PB F, SV [46]] W fun e w' => ListR W w' F [kidR ms 1] e := fun W hb => by
  have := T.list F M D PT RD W (hW.later hb) (hT.later hb)
  rw [T.tell 0 T.h0, hk] at this
  exact this
 have h64 : ∀ W, Below w.heap.size w W -> Calls Tryz.prog 64 #[PB F, .string fA.path] W fun e w' => ∃ b, e = .returned (.tuple #[IB b, .nilIface]) /\ EntAt w' b (kidR ms 1) (PB F) /\ Below W.heap.size W w' := fun W hb => by
  have hs := T.stat F M D PT RD [65, 46, 84, 88, 84] W hgp (by decide) (hW.later hb) (hT.later hb)
  refine hs.mono ?_
  rintro e w' ⟨h5, h6⟩
  have hfd : ((kidsOf ms 0).map (kidR ms)).find? (fun r => decide (r.told.data.toList = [65, 46, 84, 88, 84])) = some (kidR ms 1) := by
   rw [hk, List.map_cons, List.find?_cons, htold]; rfl
  rw [hfd] at h5
  obtain ⟨b, h7, h8⟩ := h5
  exact ⟨b, h7, h8, h6⟩
 have hself : (selfR ms 0).self = true := rfl
 have hpar : (parR ms 0).par = true := rfl
 obtain ⟨_, hks, hkp⟩ := kid_rname T.kid T.h0 hk1
 have hfind : (recsOf ms 0).find? (openP [65, 46, 84, 88, 84]) = some (kidR ms 1) := by
  rw [recsOf_eq, hk]
  have e1 : openP [65, 46, 84, 88, 84] (selfR ms 0) = false := by unfold openP; rw [hself]; rfl
  have e2 : openP [65, 46, 84, 88, 84] (parR ms 0) = false := by unfold openP; rw [hpar, Bool.or_true]; rfl
  have e3 : openP [65, 46, 84, 88, 84] (kidR ms 1) = true := by unfold openP; rw [hks, hkp, htold]; decide
  rw [List.find?_cons, e1, List.find?_cons, e2, List.map_cons, List.find?_cons, e3]
 have hnm : ∀ r ∈ recsOf ms 0, r.name.size <= 1000 := by
  intro r hr
  have ho := T.disk.ok 0 T.h0 T.root r hr
  unfold Rec.name
  split
  . decide
  . rw [size_ofL]; have := ho.id2; omega
 have h66 : ∀ W, Below w.heap.size w W -> Calls Tryz.prog 66 #[PB F, .string fA.path] W fun e w' => ∃ X b, e = .returned (.tuple #[.iface 113 (PB X), .nilIface]) /\ w'.heap[X]? = some (.cells (fileC b 0 false).toArray 118) /\ EntAt w' b (kidR ms 1) (PB F) /\ W.heap.size <= X /\ Below W.heap.size W w' := fun W hb => by
  have hWW := hW.later hb
  refine open_any F fA.path (ofL [46]) [65, 46, 84, 88, 84] (recsOf ms 0) (kidR ms 1) W hWW.p hWW.work (by decide) (T.disk.cnt 0 T.h0) hnm hfind ?_ ?_ (fun V => ?_) (fun V => ?_) (fun V hv => ?_)
  . show (nodeAt ms 1).f.dir = false; exact hd
  . have h1 := vpath_any [[65, 46, 84, 88, 84]] W (by simp) (fun s hs => by rw [List.mem_singleton] at hs; subst hs; exact hgp) (hT.later hb) (valid_asc _ (by decide)) (by decide)
    rw [joinP_one] at h1
    exact h1
  . have h1 := Tryz.path_Dir_rules fA.path V (by decide)
    have h2 := dir_join [] [65, 46, 84, 88, 84] (by simp) hgp
    rw [if_pos rfl] at h2
    rw [show fA.path.data.toList = joinP ([] ++ [[65, 46, 84, 88, 84]]) by rw [List.nil_append, joinP_one]; rfl, h2] at h1
    exact h1
  . have h1 := Tryz.path_Base fA.path V (by decide)
    have h2 := base_join [] [65, 46, 84, 88, 84] hgp
    rw [show fA.path.data.toList = joinP ([] ++ [[65, 46, 84, 88, 84]]) by rw [List.nil_append, joinP_one]; rfl, h2] at h1
    exact h1
  . exact T.read F M D PT RD V (hWW.later hv)
 have hgl : 0 < w.heap.size := cell_lt hG
 refine walk1_any F Bc (kidR ms 1) fA.path ⟨#[120]⟩ w hW.p (hnm _ (by rw [recsOf_eq, hk]; simp)) ho.s (by show (nodeAt ms 1).f.dir = false; exact hd) htold h63 h64 (fun W hb => ?_)
 have hWW := hW.later hb
 have := clo65_any F M D PT RD Bc 1 (nodeAt ms 1).extent E (kidR ms 1) fA.path img ms ds W hWW ((hb.cell (p := ⟨Bc, 0, none⟩) (cell_lt hBc)).trans hBc) hz1 rfl (by decide) (by decide) (T.disk.ext 1) hz2 T.disk.len ((hb.cell (p := ⟨0, 0, none⟩) hgl).trans hG) (fun V hv => h66 V (hb.trans (hv.mono hb.size)))
 rw [hz3] at this
 exact this
end
theorem ahead_one : Ahead [fA] := good_one.ahead
theorem isoAwake_any (E : Addr) (w : World) (hT : Tabs w) (hG : w.cell? ⟨0, 0, none⟩ = some (EofV E)) : Calls Tryz.prog 9 #[] w fun e w' => e = .returned (.bool true) /\ Below w.heap.size w w' := by
 obtain ⟨ns, hns⟩ := addFiles_made (rock := false) ahead_one
 have hFR : FilesR (w.alloc (.cells fA.cells.toArray 37)) (w.alloc (.cells fA.cells.toArray 37)).heap.size (some ⟨w.heap.size, 0, none⟩) [fA] := by
  intro i hi
  have : i = 0 := by simpa using hi
  subst this
  exact ⟨w.heap.size, 0, rfl, by simp, rangeAt_alloc w fA.cells 37⟩
 have hok : ∀ f ∈ [fA], FileOk f := by
  intro f hf; rw [List.mem_singleton] at hf; subst hf
  exact ⟨by decide, by decide, by decide, by decide⟩
 have hIM := isoImage_any 1 (some ⟨w.heap.size, 0, none⟩) [fA] ns ⟨#[86]⟩ (w.alloc (.cells fA.cells.toArray 37)) (by decide) (by decide) hFR hok (by decide) hns
 have hW1 : Below w.heap.size w (w.alloc (.cells fA.cells.toArray 37)) := (Below.refl _ _).alloc (Nat.le_refl _) _
 have h12 : ∀ (O next : Nat) (ks : List Node) (ds : List Nat) (img : List UInt8) (W : World), Below w.heap.size w W -> Own W (w.alloc (.cells fA.cells.toArray 37)).heap.size (.slice (some ⟨O, 0, none⟩) (next * 2048) (next * 2048)) img -> Laid ns [86] ks ds next img ->
  Calls Tryz.prog 12 #[.slice (some ⟨O, 0, none⟩) (next * 2048 : Nat) (next * 2048), .int .i64 2048] W fun e w' => ∃ lab g c, e = .returned (.tuple #[.string lab, .slice (some ⟨g, 0, none⟩) 1 c, .bool true, .bool true]) /\ w'.cell? ⟨g, 14, none⟩ = some (.string ⟨#[120]⟩) /\ Below W.heap.size W w' := by
  intro O next ks ds img W hb hO hL
  obtain ⟨pt, hiso⟩ := iso_of good_one hok hns (by decide) hL
  have hg : 0 < w.heap.size := cell_lt hG
  exact isoOpen1_any O (next * 2048) (next * 2048) pt 18 ⟨#[120]⟩ img [86] (selfR ks 0) ks ds W hO.rd hiso.len hiso.isoD (fun F M D PT RD Bc V hv hFs hBc => walk_one hiso E F M D PT RD Bc V hFs hBc (hT.later (hb.trans (hv.mono hb.size))) (((hb.trans (hv.mono hb.size)).cell (p := ⟨0, 0, none⟩) hg).trans hG))
 have HIM := Lib.hid hIM; have H12 := Lib.hid h12; have HW1 := Lib.hid hW1
 clear hIM h12 hFR hok hns hW1 hT hG
 go_enter Tryz.func9, Tryz.ntmps9
 go_upto_region 3 with (first
  | (go_at_call 12; go_must (refine (H12.out O next ks ds img w2 hbw2 HO2.out HL.out).mono ?_); rintro e w3 ⟨lab, g, c, rfl, hd, hb3⟩; have hbw3 : Below w.heap.size w w3 := hbw2.trans (hb3.mono hbw2.size))
  | (go_at_call 11; go_must (refine HIM.out.mono ?_); rintro e w2 ⟨O, ks, ds, next, img, rfl, hO, hb2, hL⟩; have HO2 := Lib.hid hO; have HL := Lib.hid hL; have hbw2 : Below w.heap.size w w2 := HW1.out.trans (hb2.mono HW1.out.size); clear hO hL hb2))
 go_wp2
 go_ret
 exact ⟨rfl, hbw3⟩
end Go.Proofs.YtilgpaeeleknhaaGreatDoor
