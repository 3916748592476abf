/-
  DERIVED. A part of the proof of laws.FnIsoPaths (for every input the law returns true and each argument reads as before; the listed variables read as listed when the call begins). It holds:
  · What the reader asks of an image holds of an image that is made of a plain tree: plain.
  · What ReadDir and Stat answer of the paths of a plain tree.
-/
import Derived.Test.YtilgpaeeleknhaaGreatDoorIq45
import Derived.Test.YtilgpaeeleknhaaGreatDoorIq39
import Derived.Test.YtilgpaeeleknhaaGreatDoorIq34
import Derived.Test.YtilgpaeeleknhaaGreatDoorIq36
import Derived.Test.YtilgpaeeleknhaaGreatDoorIq28
section
namespace Go.Proofs.YtilgpaeeleknhaaGreatDoor
open Go Go.RowKit
set_option linter.unusedSimpArgs false
set_option linter.unusedVariables false
theorem Fam.same {rock : Bool} {ns ms : List Node} {fs : List File} (hl : ms.length = ns.length) (h : ∀ i, (nodeAt ms i).f = (nodeAt ns i).f ∧ (nodeAt ms i).id = (nodeAt ns i).id ∧ (nodeAt ms i).parent = (nodeAt ns i).parent ∧ (nodeAt ms i).kids = (nodeAt ns i).kids ∧ (nodeAt ms i).su = (nodeAt ns i).su ∧ (nodeAt ms i).more = (nodeAt ns i).more) (hF : Fam rock ns fs) : Fam rock ms fs := by
  have hp : ∀ i, parOf ms i = parOf ns i := fun i => (h i).2.2.1
  have hd : ∀ i, dirOf ms i = dirOf ns i := fun i => congrArg File.dir (h i).1
  have hk : ∀ i, kidsOf ms i = kidsOf ns i := fun i => (h i).2.2.2.1
  refine ⟨by rw [hl]; exact hF.len, ?_, ?_, ?_, ?_, ?_, ?_⟩
  · rw [(h 0).1, hp]; exact hF.root
  · intro k hk'; rw [(h _).1]; exact hF.file k hk'
  · intro k hk'; rw [(h _).1, (h _).2.1]; exact hF.id k hk'
  · intro k hk'; rw [(h (k + 1)).1, hp, hd, (h _).1]; exact hF.par k hk'
  · intro i hi k; rw [hk, hp, hl]; exact hF.kids i (by omega) k
  · intro i; rw [(h i).2.2.2.2.1, (h i).2.2.2.2.2]; exact hF.su i
theorem num_at {xs ys : List XNode} {ds : List Nat} (hn : Num xs ys ds) (i : Nat) : ∃ k, nodeAt (XNode.ns ys) i = { nodeAt (XNode.ns xs) i with number := k } ∧ (i ∈ ds → i < xs.length → k = ds.idxOf i + 1) := by
  by_cases hi : i < xs.length
  · have hy : i < ys.length := by rw [hn.1]; exact hi
    refine ⟨if i ∈ ds then ds.idxOf i + 1 else xs[i].number, ?_, fun h _ => if_pos h⟩
    rw [nodeAt_ns ys i hy, nodeAt_ns xs i hi, hn.2 i hi hy]
  · have h1 : (XNode.ns ys).length ≤ i := by simp [XNode.ns, hn.1]; omega
    have h2 : (XNode.ns xs).length ≤ i := by simp [XNode.ns]; omega
    refine ⟨rootNode.number, ?_, fun _ h => absurd h hi⟩
    simp only [nodeAt, List.getD_eq_getElem?_getD, List.getElem?_eq_none h1, List.getElem?_eq_none h2]; rfl
theorem Holds.take {img : List UInt8} {off : Nat} {c : List UInt8} (h : Holds img off c) : (img.drop off).take c.length = c := by
  apply List.ext_getElem?
  intro j
  rw [List.getElem?_take]
  split
  · next hj => rw [List.getElem?_drop]; exact h j hj
  · next hj => rw [List.getElem?_eq_none (Nat.le_of_not_lt hj)]
theorem Holds.sub {img c d : List UInt8} {off k : Nat} (h : Holds img off c) (h2 : Holds c k d) (hl : k + d.length ≤ c.length) : Holds img (off + k) d := by
  intro j hj
  rw [Nat.add_assoc, h (k + j) (by omega), h2 j hj]
theorem fold_le (l : List Nat) (o : Nat) (h : ∀ b ∈ l, b ≤ 140) : l.foldl addLen o ≤ o + 2188 * l.length ∧ o ≤ l.foldl addLen o := by
  induction l generalizing o with
  | nil => simp
  | cons b l ih =>
    have h1 := ih (addLen o b) (fun x hx => h x (by simp [hx]))
    have h2 := h b (by simp)
    have h3 : addLen o b ≤ o + 2188 ∧ o ≤ addLen o b := by unfold addLen; split <;> omega
    simp only [List.foldl_cons, List.length_cons]; omega
theorem secUp_bd (n : Nat) : n ≤ secUp n ∧ secUp n ≤ n + 2048 := by unfold secUp; split <;> omega
theorem self_len (ns : List Node) (i : Nat) : (selfR ns i).bytes.length = 34 := by unfold Rec.bytes; rw [isoRec_length]; show recLen 1 0 = 34; decide
theorem dirBytes_first (ns : List Node) (i : Nat) : ∃ t, dirBytes ns i = (selfR ns i).bytes ++ t := by
  unfold dirBytes
  rw [dirRecs_eq, recsOf_eq, List.map_cons, List.foldl_cons]
  have e : addRec [] (selfR ns i).bytes = (selfR ns i).bytes := by
    unfold addRec; rw [if_neg (by rw [self_len]; decide)]; rfl
  rw [e]
  obtain ⟨t, ht⟩ := recs_pre ((parR ns i :: (kidsOf ns i).map (kidR ns)).map Rec.bytes) (selfR ns i).bytes
  obtain ⟨u, hu⟩ := padSec_pre (((parR ns i :: (kidsOf ns i).map (kidR ns)).map Rec.bytes).foldl addRec (selfR ns i).bytes)
  exact ⟨t ++ u, by rw [hu, ht, List.append_assoc]⟩
theorem paths_bd (ms : List Node) (ds : List Nat) (h : ∀ d ∈ ds, (pathId ms d).length ≤ 14) : 8 * ds.length ≤ (pathsL ms true ds).length ∧ (pathsL ms true ds).length ≤ 23 * ds.length := by
  rw [pathsL_length]
  induction ds with
  | nil => simp
  | cons d ds ih =>
    have h1 := ih (fun x hx => h x (by simp [hx]))
    have h2 := h d (by simp)
    have h3 : evn (pathId ms d).length ≤ 15 := by unfold evn; split <;> omega
    simp only [List.map_cons, List.sum_cons, List.length_cons]; omega
theorem ext_bd (ns : List Node) (nx : Nat) (l : List Nat) (h : ∀ i ∈ l, clen ns i ≤ 100000) : (ext ns nx l).2 ≤ nx + 49 * l.length := by
  induction l generalizing ns nx with
  | nil => exact Nat.le_refl _
  | cons i l ih =>
    have h1 := ih (setExt ns i nx (clen ns i)) (nx + blocks (clen ns i)) (fun j hj => by rw [(Like.setExt ns i nx _).clen]; exact h j (by simp [hj]))
    have h2 := h i (by simp)
    have h3 : blocks (clen ns i) ≤ 49 := by unfold blocks; omega
    simp only [ext, List.length_cons]; omega
/-- What an image of a plain tree holds, and what its nodes are. -/
structure Iso (fs : List File) (ms : List Node) (ds : List Nat) (img vol : List UInt8) (next pt : Nat) : Prop where
  fam : Fam false ms fs
  num : Numbered ms ds
  nod : ∀ i, (kidsOf ms i).Nodup
  isoD : IsoD img vol (selfR ms 0) pt 18 ms ds
  disk : Disk img ms
  kid : KidOk ms
  data : ∀ i, i < ms.length → dirOf ms i = false → (nodeAt ms i).size = (nodeAt ms i).f.data.size ∧ (nodeAt ms i).extent * 2048 + (nodeAt ms i).size ≤ img.length ∧ (img.drop ((nodeAt ms i).extent * 2048)).take (nodeAt ms i).size = (nodeAt ms i).f.data.data.toList
  len : img.length = next * 2048
  next : next ≤ 100000
theorem out_node {ms : List Node} {i : Nat} (h : ms.length ≤ i) : nodeAt ms i = rootNode := by
  simp only [nodeAt, List.getD_eq_getElem?_getD, List.getElem?_eq_none h]; rfl
theorem iso_of {fs : List File} {ns ks : List Node} {ds : List Nat} {img vol : List UInt8} {next : Nat} (hG : Good fs) (hf : ∀ f ∈ fs, FileOk f) (hm : addFiles false [rootNode] fs = some ns) (hv : vol.length ≤ 32) (hL : Laid ns vol ks ds next img) : ∃ pt, Iso fs ks ds img vol next pt := by
  obtain ⟨xs, ys, L, hS, hOk, hN, hQ, hLL, hext, himg⟩ := hL
  have hT := hS.tree (addFiles_tree hm Tree.root)
  have hFx := hS.fam (addFiles_fam hm (Fam.start false))
  rw [List.nil_append] at hFx
  have hxl : (XNode.ns xs).length = xs.length := by simp [XNode.ns]
  have hyl : (XNode.ns ys).length = xs.length := by simp [XNode.ns, hN.1]
  have hlike : Like (XNode.ns ys) ks := by have := ext_like (XNode.ns ys) (18 + blocks L + blocks L) (ds ++ filesTo (XNode.ns ys) xs.length); rw [hext] at this; exact this
  have hkl : ks.length = xs.length := by rw [hlike.len, hyl]
  have hat : ∀ i, ∃ e s k, nodeAt ks i = { nodeAt (XNode.ns xs) i with extent := e, size := s, number := k } ∧ (i ∈ ds → i < xs.length → k = ds.idxOf i + 1) := by
    intro i
    obtain ⟨e, s, h1⟩ := hlike.node i
    obtain ⟨k, h2, h3⟩ := num_at hN i
    exact ⟨e, s, k, by rw [h1, h2], h3⟩
  have hFy : Fam false (XNode.ns ys) fs := Fam.same (by rw [hyl, hxl]) (fun i => by obtain ⟨k, h2, _⟩ := num_at hN i; rw [h2]; exact ⟨rfl, rfl, rfl, rfl, rfl, rfl⟩) hFx
  have hF : Fam false ks fs := Fam.same (by rw [hkl, hxl]) (fun i => by obtain ⟨e, s, k, h2, _⟩ := hat i; rw [h2]; exact ⟨rfl, rfl, rfl, rfl, rfl, rfl⟩) hFx
  have hfl := hF.len
  have hc := hG.count
  have hkd : ∀ i, kidsOf ks i = kidsOf (XNode.ns xs) i := fun i => by obtain ⟨e, s, k, h2, _⟩ := hat i; show (nodeAt ks i).kids = (nodeAt (XNode.ns xs) i).kids; rw [h2]
  have hnod : ∀ i, (kidsOf ks i).Nodup := by
    intro i
    rw [hkd]
    by_cases hi : i < xs.length
    · exact hT.nodup i (by omega)
    · rw [show kidsOf (XNode.ns xs) i = (nodeAt (XNode.ns xs) i).kids from rfl, out_node (by omega)]
      exact List.nodup_nil
  have hkc : ∀ i, (kidsOf ks i).length ≤ 100 := by
    intro i
    rw [hkd]
    by_cases hi : i < xs.length
    · show (nodeAt (XNode.ns xs) i).kids.length ≤ 100
      rw [nodeAt_ns xs i hi]
      exact (hOk.2 _ (List.getElem_mem hi)).kids
    · rw [show kidsOf (XNode.ns xs) i = (nodeAt (XNode.ns xs) i).kids from rfl, out_node (by omega)]
      simp [rootNode]
  have hdy : ∀ i, dirOf ks i = dirOf (XNode.ns ys) i := fun i => hlike.dir i
  have hdx : ∀ i, dirOf (XNode.ns ys) i = dirOf (XNode.ns xs) i := fun i => dirOf_num hN i
  have hdd := dirs_of hm hS hN hQ
  have hNum : Numbered ks ds := by
    refine ⟨fun i => ⟨fun hi => ⟨by have := hQ.lt i hi; omega, by rw [hdy]; exact hdd i hi⟩, fun ⟨h1, h2⟩ => hQ.all hFx (i + 1) i (Nat.lt_succ_self i) (by omega) (by rw [← hdx, ← hdy]; exact h2)⟩, hQ.nodup, hQ.head, fun k hk => ?_⟩
    obtain ⟨e, s, n, h2, h3⟩ := hat k
    rw [h2]
    exact h3 hk (by have := hQ.lt k hk; omega)
  -- ids
  have hid : ∀ k, 0 < k → k < ks.length → Plain (nam ks k) ∧ (nodeAt ks k).id.data.toList = nam ks k ++ (if dirOf ks k then [] else [59, 49]) := by
    intro k h0 hk
    have h1 := nam_plain hG hF (k - 1) (by omega)
    have h2 := id_plain hF (k - 1) (by omega)
    rw [show k - 1 + 1 = k by omega] at h1 h2
    exact ⟨h1, h2⟩
  have hidl : ∀ k, 0 < k → k < ks.length → 1 ≤ (nodeAt ks k).id.data.toList.length ∧ (nodeAt ks k).id.data.toList.length ≤ 14 := by
    intro k h0 hk
    obtain ⟨h1, h2⟩ := hid k h0 hk
    have h3 := h1.len
    have h4 : 1 ≤ (nam ks k).length := List.length_pos_iff.2 h1.good.ne
    rw [h2, List.length_append]
    split <;> simp <;> omega
  have hpid : ∀ d ∈ ds, 1 ≤ (pathId ks d).length ∧ (pathId ks d).length ≤ 14 := by
    intro d hd
    unfold pathId
    split
    · decide
    · next h0 => exact hidl d (by omega) ((hNum.mem d).1 hd).1
  have hkm : ∀ i, ∀ k ∈ kidsOf ks i, 0 < k ∧ k < ks.length := by
    intro i k hk
    by_cases hi : i < ks.length
    · have := (hF.kids i hi k).1 hk; exact ⟨this.1, this.2.1⟩
    · rw [show kidsOf ks i = (nodeAt ks i).kids from rfl, out_node (by omega)] at hk
      cases hk
  -- how long
  have hdl : ∀ i, 68 ≤ (dirBytes ks i).length ∧ (dirBytes ks i).length ≤ 100000 := by
    intro i
    rw [dirBytes_length]
    have hb : ∀ b ∈ (kidsOf ks i).map (fun k => recLen (nodeAt ks k).id.data.toList.length (nodeAt ks k).su.length), b ≤ 140 := by
      intro b hb
      obtain ⟨k, hk, rfl⟩ := List.mem_map.1 hb
      obtain ⟨h1, h2⟩ := hkm i k hk
      obtain ⟨h3, h4⟩ := hidl k h1 h2
      rw [(hF.su k).1]
      exact (recLen_bd _ h3 (by omega)).2
    have h1 := fold_le _ (addLen (addLen 0 34) 34) hb
    have h2 := hkc i
    have h3 := secUp_bd ((34 :: 34 :: (kidsOf ks i).map (fun k => recLen (nodeAt ks k).id.data.toList.length (nodeAt ks k).su.length)).foldl addLen 0)
    have h4 : addLen (addLen 0 34) 34 = 68 := by decide
    simp only [List.foldl_cons] at h3 ⊢
    rw [List.length_map] at h1
    rw [h4] at h1 h3 ⊢
    have hkx : (kidsOf ks i).length ≤ 41 := by
      have := List.Nodup.length_le_of_subset (hnod i) (l₂ := List.range ks.length) (fun x hx => List.mem_range.2 (hkm i x hx).2)
      rw [List.length_range] at this
      omega
    omega
  have hcl : ∀ i, i < ks.length → clen ks i ≤ 100000 := by
    intro i hi
    unfold clen
    split
    · exact (hdl i).2
    · next hd =>
      have h0 : 0 < i := by
        rcases Nat.eq_zero_or_pos i with h | h
        · subst h
          exfalso; apply hd
          show (nodeAt ks 0).f.dir = true
          rw [hF.root.1]; rfl
        · exact h
      have := hF.mem (i - 1) (by omega)
      rw [show i - 1 + 1 = i by omega] at this
      have := (hf _ this).data
      omega
  -- where
  obtain ⟨ho1, ho2⟩ := order_ok hm hS hN hQ
  have hpl : ds.length ≤ 41 := by have := hQ.le; omega
  have hLk : (pathsL ks true ds).length = L := by rw [hLL, pathsL_like hlike true true]
  have hLb := paths_bd ks ds (fun d hd => (hpid d hd).2)
  rw [hLk] at hLb
  have hd1 := hQ.head.1
  have hLbl : blocks L = 1 := by unfold blocks; omega
  have hol : (ds ++ filesTo (XNode.ns ys) xs.length).length ≤ 41 := by
    have := List.Nodup.length_le_of_subset ho1 (l₂ := List.range xs.length) (fun x hx => List.mem_range.2 ((ho2 x).1 hx))
    rw [List.length_range] at this
    omega
  have hnb := ext_bd (XNode.ns ys) (18 + blocks L + blocks L) (ds ++ filesTo (XNode.ns ys) xs.length) (fun i hi => by rw [← hlike.clen]; exact hcl i (by rw [hkl]; exact (ho2 i).1 hi))
  rw [hext] at hnb
  simp only at hnb
  have hea : ∀ i, i < ks.length → 20 ≤ (nodeAt ks i).extent ∧ (nodeAt ks i).size = clen ks i ∧ (nodeAt ks i).extent + blocks (clen ks i) ≤ next := by
    intro i hi
    have := ext_at (XNode.ns ys) (18 + blocks L + blocks L) _ ho1 (fun j hj => by rw [hyl]; exact (ho2 j).1 hj) i ((ho2 i).2 (by omega))
    rw [hext] at this
    simp only at this
    rw [hlike.clen]
    exact ⟨by omega, this.2⟩
  obtain ⟨hI, hnx⟩ := image_has (XNode.ns ys) (ds ++ filesTo (XNode.ns ys) xs.length) (pvdB vol (isoRec [0] (nodeAt ks 0).extent (nodeAt ks 0).size (nodeAt ks 0).f.time true []) next L 18 (18 + blocks L)) term7 (pathsL ks true ds) (pathsL ks false ds) ho1 (fun i => by rw [hyl]; exact ho2 i) (pvdB_length _ _ _ _ _ _ hv (isoRec_length _ _ _ _ _ _)) (by decide) (by rw [pathsL_like (Like.refl ks) false true]) ks next (by rw [hLk]; exact hext)
  rw [← himg] at hI
  have hlen := hI.len
  have h0l : 0 < ks.length := by omega
  have hroot : dirOf ks 0 = true := by show (nodeAt ks 0).f.dir = true; rw [hF.root.1]; rfl
  have hex : ∀ i, (nodeAt ks i).extent < 400000 := by
    intro i
    by_cases hi : i < ks.length
    · have := hea i hi; omega
    · rw [out_node (by omega)]; decide
  have hsz : ∀ i, (nodeAt ks i).size ≤ 100000 := by
    intro i
    by_cases hi : i < ks.length
    · rw [(hea i hi).2.1]; exact hcl i hi
    · rw [out_node (by omega)]; decide
  have hnu : ∀ i, (nodeAt ks i).number < 65536 := by
    intro i
    by_cases hi : i < ks.length
    · obtain ⟨e, s, k, h2, h3⟩ := hat i
      rw [h2]
      show k < 65536
      by_cases hd : i ∈ ds
      · rw [h3 hd (by omega)]
        have := List.idxOf_le_length (a := i) (l := ds); omega
      · obtain ⟨e', s', h4⟩ := hlike.node i
        have h5 : k = (nodeAt (XNode.ns ys) i).number := by
          have : (nodeAt ks i).number = k := by rw [h2]
          rw [← this, h4]
        have hiy : i < ys.length := by rw [hN.1]; omega
        rw [h5, nodeAt_ns ys i hiy, hN.2 i (by omega) hiy]
        show (if i ∈ ds then ds.idxOf i + 1 else xs[i].number) < 65536
        rw [if_neg hd]
        have := (hOk.2 _ (List.getElem_mem (show i < xs.length by omega))).num
        omega
    · rw [out_node (by omega)]; decide
  have hself : ∀ i, (selfR ks i).Ok := fun i => ⟨by simp [selfR], by simp [selfR], by have := hex i; show (nodeAt ks i).extent < _; omega, by have := hsz i; show (nodeAt ks i).size < _; omega, rfl⟩
  have hpar : ∀ i, (parR ks i).Ok := fun i => ⟨by simp [parR], by simp [parR], by have := hex (parOf ks i); show (nodeAt ks (parOf ks i)).extent < _; omega, by have := hsz (parOf ks i); show (nodeAt ks (parOf ks i)).size < _; omega, rfl⟩
  have hkid : ∀ i, ∀ k ∈ kidsOf ks i, (kidR ks k).Ok := by
    intro i k hk
    obtain ⟨h1, h2⟩ := hkm i k hk
    obtain ⟨h3, h4⟩ := hidl k h1 h2
    exact ⟨h3, by show (nodeAt ks k).id.data.toList.length ≤ 100; omega, by have := hex k; show (nodeAt ks k).extent < _; omega, by have := hsz k; show (nodeAt ks k).size < _; omega, (hF.su k).1⟩
  have hrec : ∀ i, ∀ r ∈ recsOf ks i, r.Ok := by
    intro i r hr
    rw [recsOf_eq] at hr
    rcases List.mem_cons.1 hr with rfl | hr
    · exact hself i
    · rcases List.mem_cons.1 hr with rfl | hr
      · exact hpar i
      · obtain ⟨k, hk, rfl⟩ := List.mem_map.1 hr
        exact hkid i k hk
  have hnode := hI.node
  have hcont : ∀ i, dirOf ks i = true → content ks i = dirBytes ks i := fun i hd => by unfold content; rw [if_pos hd]
  have hclen : ∀ i, dirOf ks i = true → clen ks i = (dirBytes ks i).length := fun i hd => by unfold clen; rw [if_pos hd]
  have hfit : ∀ i, i < ks.length → (nodeAt ks i).extent * 2048 + (nodeAt ks i).size ≤ img.length := by
    intro i hi
    obtain ⟨h1, h2, h3⟩ := hea i hi
    have := blocks_le (clen ks i)
    rw [h2, hlen]; omega
  have htake : ∀ i, i < ks.length → (img.drop ((nodeAt ks i).extent * 2048)).take (nodeAt ks i).size = content ks i := by
    intro i hi
    have h := (hnode i hi).take
    rw [content_length, ← (hea i hi).2.1] at h
    exact h
  have hfirst : ∀ i, i < ks.length → dirOf ks i = true → Holds img ((nodeAt ks i).extent * 2048) (selfR ks i).bytes := by
    intro i hi hd
    obtain ⟨t, ht⟩ := dirBytes_first ks i
    have h := hnode i hi
    rw [hcont i hd, ht] at h
    intro j hj
    rw [h j (by rw [List.length_append]; omega), List.getElem?_append_left hj]
  have hDisk : Disk img ks := by
    refine ⟨by rw [hlen]; omega, hex, fun i hi => by have := (hea i hi).1; omega, hnu, fun i hi _ => hfit i hi, fun i hi hd => ?_, fun i hi hd => ?_, fun i hi hd => ?_, fun i hi hd => ?_, fun i hi hd => ?_, fun i hi hd => hrec i, fun i hi => ?_⟩
    · rw [(hea i hi).2.1, hclen i hd]; have := hdl i; omega
    · rw [(hea i hi).2.1, hclen i hd]
    · rw [htake i hi, hcont i hd]
    · have h := hfirst i hi hd
      have hh := (selfR ks i).has (hself i)
      have h4 : Holds (selfR ks i).bytes 10 [u8 (nodeAt ks i).size, u8 ((nodeAt ks i).size / 256), u8 ((nodeAt ks i).size / 65536), u8 ((nodeAt ks i).size / 16777216)] := by
        intro j hj
        rcases j with _ | _ | _ | _ | j
        · exact hh.s0
        · exact hh.s1
        · exact hh.s2
        · exact hh.s3
        · exfalso; simp only [List.length_cons, List.length_nil] at hj; omega
      exact (h.sub h4 (by rw [self_len]; simp)).take
    · rw [← dirRecs_eq]
      refine dirBytes_recs ks i (fun r hr => ?_)
      rw [dirRecs_eq] at hr
      obtain ⟨q, hq, rfl⟩ := List.mem_map.1 hr
      have ho := hrec i q hq
      rw [q.bytes_len ho]
      have := (recLen_bd _ ho.id1 ho.id2).2
      omega
    · rw [recsOf_eq]
      have := hkc i
      simp only [List.length_cons, List.length_map]; omega
  have hKid : KidOk ks := by
    refine ⟨fun i hi k hk => ?_, fun i hi k hk h59 => ?_⟩
    · obtain ⟨h1, h2⟩ := hkm i k hk
      obtain ⟨h3, h4⟩ := hid k h1 h2
      have hne := h3.good.ne
      obtain ⟨c, l, hcl'⟩ : ∃ c l, nam ks k = c :: l := by
        cases hh : nam ks k with
        | nil => exact absurd hh hne
        | cons c l => exact ⟨c, l, rfl⟩
      have hc2 := (h3.asc c (by rw [hcl']; simp)).1
      rw [h4, hcl']
      constructor <;> intro e <;> simp only [List.cons_append, List.cons.injEq] at e <;> rw [e.1] at hc2 <;> exact absurd hc2 (by decide)
    · obtain ⟨h1, h2⟩ := hkm i k hk
      obtain ⟨h3, h4⟩ := hid k h1 h2
      refine ⟨?_, h2⟩
      cases hd : dirOf ks k with
      | true => rfl
      | false => rw [hd] at h4; exact absurd (by rw [h4]; simp) h59
  refine ⟨L, hF, hNum, hnod, ?_, hDisk, hKid, fun i hi hd => ?_, hlen, by omega⟩
  · have hp0 := hI.pvd
    have hp1 := hp0.take
    rw [pvdB_length _ _ _ _ _ _ hv (isoRec_length _ _ _ _ _ _)] at hp1
    have ht0 := hI.term
    have hl0 := hI.pl.take
    rw [hLk] at hl0
    have he0 := hea 0 h0l
    have hb0 : 1 ≤ blocks (clen ks 0) := by rw [hclen 0 hroot]; have := hdl 0; unfold blocks; omega
    refine ⟨by rw [hlen]; omega, by rw [hlen]; omega, ?_, ?_, hself 0, rfl, hv, hLk.symm, ⟨by omega, by omega⟩, by rw [hlen]; omega, hl0, by decide, ⟨by omega, by omega⟩, fun d hd => by have := hpid d hd; omega, hex, hnu, rfl, rfl, ?_⟩
    · rw [show 32768 = 16 * 2048 from rfl, hp1]
      exact pvd_has vol _ next L 18 _ hv (isoRec_length _ _ _ _ _ _)
    · intro j hj
      rw [List.getElem?_take, if_pos (by rw [show ([255, 67, 68, 48, 48, 49, 1] : List UInt8).length = 7 from rfl] at hj; omega), List.getElem?_drop]
      have := ht0 j hj
      rw [Nat.zero_add]
      exact this
    · refine ⟨selfR ks 0, hself 0, self_len ks 0, ?_, ?_⟩
      · have := hfit 0 h0l
        have h2 := he0.2.1
        rw [hclen 0 hroot] at h2
        have h3 := hdl 0
        omega
      · have := (hfirst 0 h0l hroot).take
        rw [self_len] at this
        exact this
  · have h1 := (hea i hi).2.1
    have h2 : clen ks i = (nodeAt ks i).f.data.size := by unfold clen; rw [if_neg (by rw [hd]; decide)]
    refine ⟨by rw [h1, h2], hfit i hi, ?_⟩
    rw [htake i hi]
    unfold content
    rw [if_neg (by rw [hd]; decide)]
end Go.Proofs.YtilgpaeeleknhaaGreatDoor
end

section
namespace Go.Proofs.YtilgpaeeleknhaaGreatDoor
open Go Go.RowKit
set_option linter.unusedSimpArgs false
set_option linter.unusedVariables false
/-- A plain tree's image: what its reader is asked of. -/
structure Tr (fs : List File) (ms : List Node) (ds : List Nat) (img : List UInt8) : Prop where
  good : Good fs
  fam : Fam false ms fs
  num : Numbered ms ds
  apart : ApartD ms
  disk : Disk img ms
  kid : KidOk ms
  long : ∀ f ∈ fs, f.p.length ≤ 900
def pth (ms : List Node) (i : Nat) : List UInt8 := if i = 0 then [46] else joinP (pts ms i)
theorem joinP_all (Q : UInt8 → Prop) (h47 : Q 47) (ps : List (List UInt8)) (h : ∀ s ∈ ps, ∀ b ∈ s, Q b) : ∀ b ∈ joinP ps, Q b := by
  induction ps with
  | nil => intro b hb; cases hb
  | cons s ps ih =>
    by_cases hp : ps = []
    · subst hp; rw [joinP_one]; exact h s (by simp)
    · rw [joinP_cons s ps hp]
      intro b hb
      rcases List.mem_append.1 hb with hb | hb
      · exact h s (by simp) b hb
      · rcases List.mem_cons.1 hb with rfl | hb
        · exact h47
        · exact ih (fun t ht => h t (by simp [ht])) b hb
theorem pts_ne (ms : List Node) (i : Nat) (h0 : i ≠ 0) : pts ms i ≠ [] := by unfold pts; rw [if_neg h0]; exact els_ne _
section
variable {fs : List File} {ms : List Node} {ds : List Nat} {img : List UInt8}
theorem Tr.len (T : Tr fs ms ds img) (i : Nat) (hi : i < ms.length) : (joinP (pts ms i)).length ≤ 900 := by
  rw [← path_pts T.fam i hi]
  have hl := T.fam.len
  by_cases h0 : i = 0
  · subst h0; rw [T.fam.root.1]; decide
  · have := T.fam.mem (i - 1) (by omega)
    rw [show i - 1 + 1 = i by omega] at this
    exact T.long _ this
theorem Tr.valid (T : Tr fs ms ds img) (i : Nat) (hi : i < ms.length) : Lib.validD (joinP (pts ms i)) = true :=
  valid_asc _ (joinP_all (fun b => b.toNat < 128) (by decide) _ (fun s hs b hb => ((T.good.plain T.fam i hi s hs).asc b hb).2))
theorem Tr.h0 (T : Tr fs ms ds img) : 0 < ms.length := by have := T.fam.len; omega
theorem Tr.root (T : Tr fs ms ds img) : dirOf ms 0 = true := by show (nodeAt ms 0).f.dir = true; rw [T.fam.root.1]; rfl
theorem Tr.dl (T : Tr fs ms ds img) : ds.length ≤ 10000 := by
  have := List.Nodup.length_le_of_subset T.num.nodup (l₂ := List.range ms.length) (fun x hx => List.mem_range.2 ((T.num.mem x).1 hx).1)
  rw [List.length_range] at this
  have := T.fam.len; have := T.good.count
  omega
theorem Tr.x32 (T : Tr fs ms ds img) (d : Nat) : (nodeAt ms d).extent < 4294967296 := by have := T.disk.ext d; omega
theorem Tr.pt (T : Tr fs ms ds img) (PT i : Nat) (w : World) (q : List UInt8) (rest : List (List UInt8)) (hi : i < ms.length) (e : pts ms i = q :: rest) (h : PtAt w PT ms ds) :
    Calls Tryz.prog 132 #[PB PT, SV (joinP (q :: rest))] w fun e w' => e = .returned (.int .u32 (ptLoc ms ds (q :: rest))) ∧ Below w.heap.size w w' := by
  have hp := T.good.plain T.fam i hi
  rw [e] at hp
  have hl := T.len i hi
  rw [e] at hl
  exact ptLoc_any PT ms ds q rest w h T.dl T.num.nodup (fun s hs => ⟨(hp s hs).good.no, (hp s hs).back, (hp s hs).good.ne⟩) (hp q (by simp)).good.dot (by omega)
    (fun i hi j hj h1 h2 => pathId_apart T.fam T.num T.apart q (hp q (by simp)) i j hi hj h1 h2) T.x32 T.disk.num
theorem Tr.de (T : Tr fs ms ds img) (F M D PT RD i : Nat) (w : World) (q : List UInt8) (rest : List (List UInt8)) (hi : i < ms.length) (e : pts ms i = q :: rest) (h : FsW w F M D PT RD img ms ds) :
    Calls Tryz.prog 133 #[PB RD, SV (joinP (q :: rest))] w fun e w' => e = .returned (.tuple #[.int .u32 (locE ms (locate ms 0 (pts ms i))), .int .u32 (locS ms (locate ms 0 (pts ms i))), .nilIface]) ∧ Below w.heap.size w w' := by
  have hp := T.good.plain T.fam i hi
  rw [e] at hp
  have hl := T.len i hi
  rw [e] at hl ⊢
  obtain ⟨r, h1, h2, h3⟩ := h.rootat
  exact deLoc_any F M D PT RD img ms ds T.disk T.kid rest q 0 RD r w h T.h0 T.root h3 h1 h2 (fun s hs => ⟨(hp s hs).good, (hp s hs).back, (hp s hs).semi⟩) (by omega)
theorem Tr.vp (T : Tr fs ms ds img) (i : Nat) (w : World) (hi : i < ms.length) (hT : Tabs w) : Calls Tryz.prog 82 #[SV (pth ms i)] w fun e w' => e = .returned .nilIface ∧ Below w.heap.size w w' := by
  unfold pth
  by_cases h0 : i = 0
  · rw [if_pos h0]; exact vpath_dot w hT
  · rw [if_neg h0]
    have := T.len i hi
    exact vpath_any (pts ms i) w (pts_ne ms i h0) (fun s hs => (T.good.plain T.fam i hi s hs).good) hT (T.valid i hi) (by omega)
theorem Tr.list (T : Tr fs ms ds img) (F M D PT RD i : Nat) (w : World) (hi : i < ms.length) (hd : dirOf ms i = true) (hW : FsW w F M D PT RD img ms ds) (hT : Tabs w) :
    Calls Tryz.prog 63 #[PB F, SV (pth ms i)] w fun e w' => ListR w w' F (tellR (recsOf ms i)) e := by
  refine readDir_any F _ (recsOf ms i) w hW.lt hW.work (T.disk.cnt i hi) (T.vp i w hi hT) (fun W hb => ?_)
  have hW' := hW.later hb
  refine readDirectory_ok F _ _ W hW'.jol ?_
  by_cases h0 : i = 0
  · subst h0
    exact readPVD_pt F M D PT RD 0 img ms ds _ W hW' T.disk hi hd (fun V hv => ptLoc_dot PT ms ds V (hW'.later hv).ptat T.num.head.1 T.num.head.2 (T.x32 0))
  · have hne := pts_ne ms i h0
    unfold pth; rw [if_neg h0]
    obtain ⟨q, rest, e⟩ : ∃ q rest, pts ms i = q :: rest := by
      cases h : pts ms i with
      | nil => exact absurd h hne
      | cons q rest => exact ⟨q, rest, rfl⟩
    have hloc := locate_dir T.good T.fam i hi (.inr hd)
    rw [e]
    cases rest with
    | nil =>
      refine readPVD_pt F M D PT RD i img ms ds _ W hW' T.disk hi hd (fun V hv => ?_)
      have h1 := T.pt PT i V q [] hi e (hW'.later hv).ptat
      have hp := T.good.plain T.fam i hi
      rw [e] at hp
      have hk : kidOf ms 0 q = some i := by
        rw [e] at hloc
        simp only [locate] at hloc
        cases hk : kidOf ms 0 q with
        | none => rw [hk] at hloc; cases hloc
        | some k => rw [hk] at hloc; exact hloc
      have h2 : ptLoc ms ds [q] = (nodeAt ms i).extent := by
        unfold ptLoc
        simp only [ptFind_eq T.good T.fam T.num q (hp q (by simp)), hk]
      rw [h2] at h1
      exact h1
    | cons r rest =>
      refine readPVD_tree F M D PT RD i img ms ds _ W hW' T.disk hi hd (fun V hv => (T.pt PT i V q (r :: rest) hi e (hW'.later hv).ptat).mono fun e w' h => ⟨h.1.trans rfl, h.2⟩) (fun V hv => ?_)
      have h1 := T.de F M D PT RD i V q (r :: rest) hi e (hW'.later hv)
      rw [hloc] at h1
      exact h1
theorem Tr.listNo (T : Tr fs ms ds img) (F M D PT RD i : Nat) (w : World) (hi : i < ms.length) (h0 : 0 < i) (hd : dirOf ms i = false) (hW : FsW w F M D PT RD img ms ds) (hT : Tabs w) :
    Calls Tryz.prog 63 #[PB F, SV (pth ms i)] w fun e w' => (∃ b, e = .returned (.tuple #[.slice none 0 0, .iface 214 (PB b)])) ∧ Below w.heap.size w w' := by
  refine readDir_err F _ w hW.lt hW.work (T.vp i w hi hT) (fun W hb => ?_)
  have hW' := hW.later hb
  refine readDirectory_err F _ W hW'.jol ?_
  have hne := pts_ne ms i (by omega)
  unfold pth; rw [if_neg (by omega)]
  obtain ⟨q, rest, e⟩ : ∃ q rest, pts ms i = q :: rest := by
    cases h : pts ms i with
    | nil => exact absurd h hne
    | cons q rest => exact ⟨q, rest, rfl⟩
  have hloc := locate_file T.good T.fam i hi h0 hd
  rw [e]
  have hp := T.good.plain T.fam i hi
  rw [e] at hp
  have hz : ptLoc ms ds (q :: rest) = 0 := by
    cases rest with
    | nil =>
      have hk : kidOf ms 0 q = none := by
        rw [e] at hloc
        simp only [locate] at hloc
        cases hk : kidOf ms 0 q with
        | none => rfl
        | some k => rw [hk] at hloc; cases hloc
      unfold ptLoc
      simp only [ptFind_eq T.good T.fam T.num q (hp q (by simp)), hk]
    | cons r rest => rfl
  refine readPVD_no F M D PT RD img ms ds _ W hW' (fun V hv => ?_) (fun V hv => ?_)
  · have h1 := T.pt PT i V q rest hi e (hW'.later hv).ptat
    rw [hz] at h1
    exact h1
  · have h1 := T.de F M D PT RD i V q rest hi e (hW'.later hv)
    rw [hloc] at h1
    exact h1
theorem Tr.tell (T : Tr fs ms ds img) (i : Nat) (hi : i < ms.length) : tellR (recsOf ms i) = (kidsOf ms i).map (kidR ms) := by
  rw [recsOf_eq]
  unfold tellR
  have h1 : ((selfR ms i).self || (selfR ms i).par) = true := rfl
  have h2 : ((parR ms i).self || (parR ms i).par) = true := rfl
  rw [List.filter_cons, h1, List.filter_cons, h2]
  simp only [Bool.not_true, Bool.false_eq_true, if_false]
  rw [List.filter_eq_self]
  intro r hr
  obtain ⟨k, hk, rfl⟩ := List.mem_map.1 hr
  obtain ⟨_, h3, h4⟩ := kid_rname T.kid hi hk
  rw [h3, h4]; rfl
theorem trimS_hit (a p : List UInt8) : Lib.trimSuffix (a ++ p) p = a := by
  unfold Lib.trimSuffix
  have h : Lib.hasSuffix (a ++ p) p = true := by simp [Lib.hasSuffix]
  rw [if_pos h]
  simp
theorem trimS_dot (a : List UInt8) (h : a.getLast? ≠ some 46) : Lib.trimSuffix a [46] = a := by
  unfold Lib.trimSuffix
  rw [if_neg]
  intro h2
  apply h
  have h3 : ([46] : List UInt8) <:+ a := by simpa [Lib.hasSuffix] using h2
  obtain ⟨t, rfl⟩ := h3
  simp
theorem trimP_dot (a : List UInt8) (h : a.head? ≠ some 46) : Lib.trimPrefix a [46] = a := by
  unfold Lib.trimPrefix
  rw [if_neg]
  intro h2
  apply h
  have h3 : ([46] : List UInt8) <+: a := by simpa [Lib.hasPrefix] using h2
  obtain ⟨t, rfl⟩ := h3
  simp
theorem Tr.kidm (T : Tr fs ms ds img) (i k : Nat) (hi : i < ms.length) (hk : k ∈ kidsOf ms i) : 0 < k ∧ k < ms.length ∧ parOf ms k = i := (T.fam.kids i hi k).1 hk
theorem Tr.namP (T : Tr fs ms ds img) (k : Nat) (h0 : 0 < k) (hk : k < ms.length) : Plain (nam ms k) := by
  have hl := T.fam.len
  have h1 := nam_plain T.good T.fam (k - 1) (by omega)
  rw [show k - 1 + 1 = k by omega] at h1
  exact h1
theorem Tr.told (T : Tr fs ms ds img) (i k : Nat) (hi : i < ms.length) (hk : k ∈ kidsOf ms i) : (kidR ms k).told = ofL (nam ms k) := by
  obtain ⟨h1, h2, h3⟩ := T.kidm i k hi hk
  have hl := T.fam.len
  have hid := id_plain T.fam (k - 1) (by omega)
  have hpl := T.namP k h1 h2
  rw [show k - 1 + 1 = k by omega] at hid
  have hnm := (kid_rname T.kid hi hk).1
  unfold Rec.told
  rw [hnm, hid]
  have hd : (kidR ms k).d = dirOf ms k := rfl
  rw [hd]
  cases hdd : dirOf ms k with
  | true => simp
  | false =>
    simp only [Bool.false_eq_true, if_false]
    rw [trimS_hit, trimS_dot _ hpl.last, trimP_dot _ hpl.head]
theorem Tr.step (T : Tr fs ms ds img) (i : Nat) (h0 : 0 < i) (hi : i < ms.length) : pts ms i = pts ms (parOf ms i) ++ [nam ms i] ∧ parOf ms i < i ∧ dirOf ms (parOf ms i) = true ∧ i ∈ kidsOf ms (parOf ms i) := by
  have hl := T.fam.len
  have h1 := pts_step T.good T.fam (i - 1) (by omega)
  obtain ⟨hp1, hp2, hp3, hp4⟩ := T.fam.par (i - 1) (by omega)
  rw [show i - 1 + 1 = i by omega] at h1 hp1 hp2
  exact ⟨h1, hp1, hp2, (T.fam.kids _ (by omega) i).2 ⟨h0, hi, rfl⟩⟩
theorem Tr.stat (T : Tr fs ms ds img) (F M D PT RD i : Nat) (bn : List UInt8) (w : World) (hi : i < ms.length) (hd : dirOf ms i = true) (hbn : GoodPart bn) (hbl : bn.length ≤ 100) (hW : FsW w F M D PT RD img ms ds) (hT : Tabs w) :
    Calls Tryz.prog 64 #[PB F, SV (joinP (pts ms i ++ [bn]))] w fun e w' => StatR w w' F ((kidsOf ms i).map (kidR ms)) bn e := by
  have hl := T.len i hi
  have hg : ∀ t ∈ pts ms i, GoodPart t := fun t ht => (T.good.plain T.fam i hi t ht).good
  have hlen : (joinP (pts ms i ++ [bn])).length ≤ 1001 := by
    by_cases hp : pts ms i = []
    · rw [hp, List.nil_append, joinP_one]; omega
    · rw [joinP_snoc _ _ hp, List.length_append, List.length_cons]; omega
  have hsz : (ofL (joinP (pts ms i ++ [bn]))).size ≤ 1001 := by rw [size_ofL]; exact hlen
  rw [← T.tell i hi]
  refine stat_any F (ofL (joinP (pts ms i ++ [bn]))) (ofL (pth ms i)) bn (tellR (recsOf ms i)) w hW.p ?_ ?_ ?_ (fun W => ?_) (fun W => ?_) (fun W hb => ?_)
  · show joinP (pts ms i ++ [bn]) ≠ [46]
    by_cases hp : pts ms i = []
    · rw [hp, List.nil_append, joinP_one]; exact hbn.dot
    · rw [joinP_snoc _ _ hp]
      intro e
      have : (47 : UInt8) ∈ ([46] : List UInt8) := by rw [← e]; simp
      simp at this
  · exact Nat.le_trans (List.length_filter_le _ _) (T.disk.cnt i hi)
  · intro r hr
    have ho := T.disk.ok i hi hd r (List.mem_filter.1 hr).1
    unfold Rec.name
    split
    · decide
    · rw [size_ofL]; have := ho.id2; omega
  · have h1 := Tryz.path_Dir_rules (ofL (joinP (pts ms i ++ [bn]))) W (by omega)
    have h2 := dir_join (pts ms i) bn hg hbn
    have h3 : (if pts ms i = [] then [46] else joinP (pts ms i)) = pth ms i := by
      unfold pth
      by_cases h0 : i = 0
      · subst h0; rfl
      · rw [if_neg (pts_ne ms i h0), if_neg h0]
    rw [h3] at h2
    rw [show (ofL (joinP (pts ms i ++ [bn]))).data.toList = joinP (pts ms i ++ [bn]) from rfl, h2] at h1
    exact h1
  · have h1 := Tryz.path_Base (ofL (joinP (pts ms i ++ [bn]))) W (by omega)
    rw [show (ofL (joinP (pts ms i ++ [bn]))).data.toList = joinP (pts ms i ++ [bn]) from rfl, base_join (pts ms i) bn hbn] at h1
    exact h1
  · exact T.list F M D PT RD i W hi hd (hW.later hb) (hT.later hb)
theorem find_kid {p : Rec → Bool} {g : Nat → Rec} (l : List Nat) : (l.map g).find? p = (l.find? (fun k => p (g k))).map g := by
  induction l with
  | nil => rfl
  | cons a l ih =>
    rw [List.map_cons, List.find?_cons, List.find?_cons, ih]
    cases p (g a) <;> rfl
theorem Tr.statHit (T : Tr fs ms ds img) (F M D PT RD i : Nat) (w : World) (hi : i < ms.length) (h0 : 0 < i) (hW : FsW w F M D PT RD img ms ds) (hT : Tabs w) :
    Calls Tryz.prog 64 #[PB F, SV (nodeAt ms i).f.p] w fun e w' => ∃ b, e = .returned (.tuple #[IB b, .nilIface]) ∧ EntAt w' b (kidR ms i) (PB F) ∧ Below w.heap.size w w' := by
  obtain ⟨h1, h2, h3, h4⟩ := T.step i h0 hi
  have hn := T.namP i h0 hi
  have hs := T.stat F M D PT RD (parOf ms i) (nam ms i) w (by omega) h3 hn.good (by have := hn.len; omega) hW hT
  rw [← h1, ← path_pts T.fam i hi] at hs
  refine hs.mono fun e w' h => ?_
  obtain ⟨h5, h6⟩ := h
  have hf : ((kidsOf ms (parOf ms i)).map (kidR ms)).find? (fun r => decide (r.told.data.toList = nam ms i)) = some (kidR ms i) := by
    rw [find_kid, find_unique (i := i) h4]
    · rfl
    · rw [T.told (parOf ms i) i (by omega) h4]; simp
    · intro k hk hke
      rw [T.told (parOf ms i) k (by omega) hk] at hke
      simp only [decide_eq_true_eq] at hke
      obtain ⟨k1, k2, k3⟩ := T.kidm _ k (by omega) hk
      have k4 := (T.step k k1 k2).1
      refine pts_inj T.good T.fam k i k2 hi ?_
      rw [k4, k3, h1]
      congr 2
  rw [hf] at h5
  obtain ⟨b, h7, h8⟩ := h5
  exact ⟨b, h7, h8, h6⟩
/-- Of a name behind which two signs more stand: it is told only where such a node is. -/
theorem Tr.statMore (T : Tr fs ms ds img) (i : Nat) (hi : i < ms.length) (h0 : 0 < i) :
    (∃ k, 0 < k ∧ k < ms.length ∧ (nodeAt ms k).f.p = (nodeAt ms i).f.p ++ [81, 48]) ∨
    (∀ F M D PT RD w, FsW w F M D PT RD img ms ds → Tabs w → Calls Tryz.prog 64 #[PB F, SV ((nodeAt ms i).f.p ++ [81, 48])] w fun e w' => ∃ b, e = .returned (.tuple #[.nilIface, .iface 188 (PB b)]) ∧ Below w.heap.size w w') := by
  obtain ⟨h1, h2, h3, h4⟩ := T.step i h0 hi
  have hn := T.namP i h0 hi
  have hgd : GoodPart (nam ms i ++ [81, 48]) := by
    refine ⟨by simp, ?_, ?_, ?_⟩
    · intro h
      rcases List.mem_append.1 h with h | h
      · exact hn.good.no h
      · simp at h
    · intro e
      have := congrArg List.length e
      simp at this
    · intro e
      have h48 : (48 : UInt8) ∈ ([46, 46] : List UInt8) := by rw [← e]; simp
      simp at h48
  have hjoin : joinP (pts ms (parOf ms i) ++ [nam ms i ++ [81, 48]]) = (nodeAt ms i).f.p ++ [81, 48] := by
    rw [path_pts T.fam i hi, h1]
    by_cases hp : pts ms (parOf ms i) = []
    · rw [hp, List.nil_append, List.nil_append, joinP_one, joinP_one]
    · rw [joinP_snoc _ _ hp, joinP_snoc _ _ hp]; simp
  cases hf : (kidsOf ms (parOf ms i)).find? (fun k => decide ((kidR ms k).told.data.toList = nam ms i ++ [81, 48])) with
  | some k =>
    left
    have hk := List.mem_of_find?_eq_some hf
    have hke := List.find?_some hf
    rw [T.told (parOf ms i) k (by omega) hk] at hke
    simp only [decide_eq_true_eq] at hke
    obtain ⟨k1, k2, k3⟩ := T.kidm _ k (by omega) hk
    have k4 := (T.step k k1 k2).1
    refine ⟨k, k1, k2, ?_⟩
    have hke' : nam ms k = nam ms i ++ [81, 48] := hke
    rw [path_pts T.fam k k2, k4, k3, hke', hjoin]
  | none =>
    right
    intro F M D PT RD w hW hT
    have hs := T.stat F M D PT RD (parOf ms i) (nam ms i ++ [81, 48]) w (by omega) h3 hgd (by have := hn.len; simp; omega) hW hT
    rw [hjoin] at hs
    refine hs.mono fun e w' h => ?_
    obtain ⟨h5, h6⟩ := h
    rw [find_kid, hf] at h5
    obtain ⟨b, h7⟩ := h5
    exact ⟨b, h7, h6⟩
end
end Go.Proofs.YtilgpaeeleknhaaGreatDoor
end
