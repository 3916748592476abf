/- A part of the proof of laws.FnIsoRock (see the last text). -/
import Derived.Test.YtilgpaeeleknhaaGreatDoorJr18
import Derived.Test.YtilgpaeeleknhaaGreatDoorJr19
set_option linter.unusedSimpArgs false
set_option linter.unusedVariables false
set_option maxRecDepth 1000000
set_option maxHeartbeats 8000000
namespace Go.Proofs.YtilgpaeeleknhaaGreatDoor
open Go Go.RowKit
structure OkX (rock : Bool) (n : Nat) (x : XNode) : Prop where
 su : x.su.length <= 400
 more : x.more.length <= 1000 /\ x.place <= 200000
 nr : rock = false -> x.su = [] /\ x.more = []
 id : x.id.size <= 1000
 data : x.f.data.size <= 60000
 t0 : -9223372036854775808 <= x.f.time
 t1 : x.f.time <= 9223372036854775807
 par : x.parent < n
 kid : ∀ k ∈ x.kids, k < n
 kids : x.kids.length <= 100
 ext : x.extent < 1000000
 size : x.size < 1000000
 num : x.number <= 100
def OkXs (rock : Bool) (n : Nat) (zs : List XNode) : Prop := zs.length = n /\ ∀ x ∈ zs, OkX rock n x
theorem OkXs.set {rock : Bool} {n : Nat} {zs : List XNode} (h : OkXs rock n zs) (i : Nat) (hi : i < zs.length) (e s : Nat) (he : e < 1000000) (hs : s < 1000000) : OkXs rock n (zs.set i { zs[i] with extent := e, size := s }) := by
 refine ⟨by rw [List.length_set]; exact h.1, fun x hx => ?_⟩
 rcases List.mem_or_eq_of_mem_set hx with hx | rfl
 . exact h.2 x hx
 . have := h.2 _ (List.getElem_mem hi)
   exact ⟨this.su, this.more, this.nr, this.id, this.data, this.t0, this.t1, this.par, this.kid, this.kids, he, hs, this.num⟩
theorem ns_set (zs : List XNode) (i : Nat) (hi : i < zs.length) (e s : Nat) : XNode.ns (zs.set i { zs[i] with extent := e, size := s }) = setExt (XNode.ns zs) i e s := by
 unfold setExt
 rw [nodeAt_ns zs i hi]
 simp only [XNode.ns, List.map_set]
structure IS (rock : Bool) (w0 w : World) (g c n Bd co : Nat) (A : Option Addr) (zs : List XNode) (ds : List Nat) : Prop where
 nodes : NodesW w w0.heap.size (.slice (some ⟨g, 0, none⟩) n c) zs
 ok : OkXs rock n zs
 dirs : OwnI w Bd (.slice A ds.length co) ds
 below : Below w0.heap.size w0 w
theorem IS.lt {rock : Bool} {w0 w : World} {g c n Bd co : Nat} {A : Option Addr} {zs : List XNode} {ds : List Nat} (h : IS rock w0 w g c n Bd co A zs ds) : g < w.heap.size /\ w0.heap.size <= g := by
 have := h.nodes.len_le h.ok.1.symm
 exact ⟨this.2.2, this.2.1⟩
theorem IS.later {rock : Bool} {w0 w w' : World} {g c n Bd co : Nat} {A : Option Addr} {zs : List XNode} {ds : List Nat} (h : IS rock w0 w g c n Bd co A zs ds) (hb : Below w.heap.size w w') : IS rock w0 w' g c n Bd co A zs ds :=
 ⟨h.nodes.later hb, h.ok, ownsRow_later h.dirs hb, h.below.trans (hb.mono h.below.size)⟩
theorem IS.cell {rock : Bool} {w0 w : World} {g c n Bd co : Nat} {A : Option Addr} {zs : List XNode} {ds : List Nat} (h : IS rock w0 w g c n Bd co A zs ds) (i : Nat) (hi : i < zs.length) (j : Nat) (u : Value) (hu : zs[i].cells[j]? = some u) : w.cell? ⟨g, i * 18 + j, none⟩ = some u := h.nodes.cells i hi j u hu
theorem IS.frozen {rock : Bool} {w0 w : World} {g c n Bd co : Nat} {A : Option Addr} {zs : List XNode} {ds : List Nat} (h : IS rock w0 w g c n Bd co A zs ds) (j : Nat) : w.frozen? ⟨g, j, none⟩ = false := h.nodes.frozen h.ok.1.symm j
theorem IS.kept {rock : Bool} {w0 w w' : World} {g c n Bd co : Nat} {A : Option Addr} {zs : List XNode} {ds : List Nat} (h : IS rock w0 w g c n Bd co A zs ds) (hg : w.grownBy w' (some g)) : OwnI w' Bd (.slice A ds.length co) ds :=
 World.ownsRow.kept h.dirs hg (by
  have := rows_ne h.dirs h.nodes.row (by decide)
  exact this)
theorem IS.store {rock : Bool} {w0 w : World} {g c n Bd co : Nat} {A : Option Addr} {zs : List XNode} {ds : List Nat} (h : IS rock w0 w g c n Bd co A zs ds) (i : Nat) (hi : i < zs.length) (e s : Nat) (he : e < 1000000) (hs : s < 1000000) :
 IS rock w0 ((w.setCell ⟨g, i * 18 + 11, none⟩ (.int .u32 e)).setCell ⟨g, i * 18 + 12, none⟩ (.int .u32 s)) g c n Bd co A (zs.set i { zs[i] with extent := e, size := s }) ds /\
 (w.setCell ⟨g, i * 18 + 11, none⟩ (.int .u32 e)).cell? ⟨g, i * 18 + 12, none⟩ = some (.int .u32 zs[i].size) /\ (w.setCell ⟨g, i * 18 + 11, none⟩ (.int .u32 e)).frozen? ⟨g, i * 18 + 12, none⟩ = false := by
 obtain ⟨hN1, hg1⟩ := h.nodes.setField h.ok.1.symm i hi 11 (by decide) (.int .u32 e) { zs[i] with extent := e } rfl ⟨rfl, rfl, rfl, rfl, rfl, rfl, rfl, rfl, rfl⟩
 have hl1 : n = (zs.set i { zs[i] with extent := e }).length := by rw [List.length_set]; exact h.ok.1.symm
 have hi1 : i < (zs.set i { zs[i] with extent := e }).length := by rw [List.length_set]; exact hi
 obtain ⟨hN2, hg2⟩ := hN1.setField hl1 i hi1 12 (by decide) (.int .u32 s) { zs[i] with extent := e, size := s } (by simp) (by simp [SameMem])
 rw [List.set_set] at hN2
 have hd1 := h.kept hg1
 have hd2 := World.ownsRow.kept hd1 hg2 (rows_ne hd1 hN1.row (by decide))
 have hc := hN1.cells i hi1 12 (.int .u32 zs[i].size) (by simp)
 refine ⟨⟨hN2, h.ok.set i hi e s he hs, hd2, ?_⟩, hc, hN1.frozen hl1 _⟩
 exact (h.below.setCell h.lt.2 _).setCell h.lt.2 _
theorem IS.records {rock : Bool} {w0 w : World} {g c n Bd co : Nat} {A : Option Addr} {zs : List XNode} {ds : List Nat} (h : IS rock w0 w g c n Bd co A zs ds) (i area : Nat) (hi : i < zs.length) (hn : n <= 100) (har : area <= 200000) :
 Calls Tryz.prog 33 #[.slice (some ⟨g, 0, none⟩) n c, .int .i64 i, .bool rock, .int .u32 area] w fun e w' => ∃ A' c' q, e = .returned (.slice A' q c') /\ Hid ((dirBytesR rock area (XNode.ns zs) i).length = q) /\ Own w' w.heap.size (.slice A' q c') (dirBytesR rock area (XNode.ns zs) i) /\ Below w.heap.size w w' := by
 have hl := h.ok.1
 have hN := h.nodes
 subst hl
 have ok : ∀ (j : Nat) (hj : j < zs.length), OkX rock zs.length zs[j] := fun j hj => h.ok.2 _ (List.getElem_mem hj)
 refine (isoRecordsR_any rock w0.heap.size g c i zs[i].parent area zs w hN (by omega) hi rfl (ok i hi).par (ok i hi).kid (by have := (ok i hi).kids; omega) (fun j hj => (ok j hj).su) (fun j hj => (ok j hj).more) (fun hr j hj => ((ok j hj).nr hr).2) har (fun j hj => (ok j hj).id)
  (fun j hj => by have := (ok j hj).ext; omega) (fun j hj => by have := (ok j hj).size; omega) (fun j hj => ⟨(ok j hj).t0, (ok j hj).t1⟩)).mono ?_
 rintro e w' ⟨A', c', rfl, hO, hb⟩
 exact ⟨A', c', _, rfl, rfl, hO, hb⟩
theorem IS.paths {rock : Bool} {w0 w : World} {g c n Bd co : Nat} {A : Option Addr} {zs : List XNode} {ds : List Nat} (h : IS rock w0 w g c n Bd co A zs ds) (little : Bool) (hd : ∀ d ∈ ds, d < zs.length) (hdl : ds.length <= 100) :
 Calls Tryz.prog 31 #[.slice (some ⟨g, 0, none⟩) n c, .slice A ds.length co, .bool little] w fun e w' => ∃ A' c' q, e = .returned (.slice A' q c') /\ Hid ((pathsL (XNode.ns zs) little ds).length = q) /\ Own w' w.heap.size (.slice A' q c') (pathsL (XNode.ns zs) little ds) /\ Below w.heap.size w w' := by
 have hl := h.ok.1
 have hN := h.nodes
 subst hl
 have ok : ∀ (j : Nat) (hj : j < zs.length), OkX rock zs.length zs[j] := fun j hj => h.ok.2 _ (List.getElem_mem hj)
 refine (isoPaths_any g c co A zs ds little Bd w hN.cells h.lt.1 h.dirs (by omega) hd (fun j hj => (ok j hj).par) (fun j hj => by have := (ok j hj).id; omega) (fun j hj => by have := (ok j hj).ext; omega) (fun j hj => by have := (ok j hj).num; omega)).mono ?_
 rintro e w' ⟨A', c', rfl, hO, hb⟩
 exact ⟨A', c', _, rfl, rfl, hO, hb⟩
theorem addLen_le (o b : Nat) : addLen o b <= o + 2048 + b := by
 have := Nat.mod_lt o (show 0 < 2048 by decide)
 unfold addLen; split <;> omega
theorem foldLen_le (l : List Nat) (o : Nat) (h : ∀ b ∈ l, b <= 2048) : l.foldl addLen o <= o + l.length * 4096 := by
 induction l generalizing o with
 | nil => simp
 | cons b l ih =>
   have h1 := addLen_le o b
   have h2 := h b (by simp)
   have h3 := ih (addLen o b) (fun x hx => h x (by simp [hx]))
   simp only [List.foldl_cons, List.length_cons]
   omega
theorem recsR_le {rock : Bool} {n : Nat} {zs : List XNode} (h : OkXs rock n zs) (area i : Nat) (hi : i < zs.length) : (recsR rock area (XNode.ns zs) i).length <= 102 /\ ∀ r ∈ recsR rock area (XNode.ns zs) i, r.length <= 2048 := by
 have hx := h.2 _ (List.getElem_mem hi)
 have hk : kidsOf (XNode.ns zs) i = zs[i].kids := kids_ns zs i hi
 have hp : parOf (XNode.ns zs) i = zs[i].parent := by show (nodeAt (XNode.ns zs) i).parent = _; rw [nodeAt_ns zs i hi]
 have hpl : zs[i].parent < zs.length := by rw [h.1]; exact hx.par
 have hpx := h.2 _ (List.getElem_mem hpl)
 have hkids := hx.kids
 have hrl : ∀ a b : Nat, a <= 1000 -> b <= 600 -> recLen a b <= 2048 := by intro a b ha hb; unfold recLen evn; split <;> split <;> omega
 have hid : ∀ k, k < zs.length -> (nodeAt (XNode.ns zs) k).id.data.toList.length <= 1000 := fun k hkl => by
  rw [nodeAt_ns zs k hkl]
  have := (h.2 _ (List.getElem_mem hkl)).id
  show zs[k].id.data.toList.length <= 1000
  rw [Array.length_toList]; exact this
 have hsu : ∀ k, k < zs.length -> (nodeAt (XNode.ns zs) k).su.length <= 400 := fun k hkl => by rw [nodeAt_ns zs k hkl]; exact (h.2 _ (List.getElem_mem hkl)).su
 cases rock with
 | true =>
   show (dirRecsX area (XNode.ns zs) i).length <= 102 /\ ∀ r ∈ dirRecsX area (XNode.ns zs) i, r.length <= 2048
   unfold dirRecsX
   rw [hk]
   refine ⟨by simp only [List.length_cons, List.length_map]; omega, fun r hr => ?_⟩
   simp only [List.mem_cons, List.mem_map] at hr
   rcases hr with rfl | rfl | ⟨k, hkm, rfl⟩
   . rw [isoRec_length, dotSu_len]
     refine hrl _ _ (by decide) ?_
     unfold dotSuLen; have := hsu i hi; split <;> omega
   . rw [isoRec_length, hp]
     exact hrl _ _ (by decide) (by have := hsu _ hpl; omega)
   . have hkl : k < zs.length := by rw [h.1]; exact hx.kid k hkm
     rw [isoRec_length, kidSu_len]
     refine hrl _ _ (hid k hkl) ?_
     unfold kidSuLen; have := hsu k hkl; split <;> omega
 | false =>
   show (dirRecs (XNode.ns zs) i).length <= 102 /\ ∀ r ∈ dirRecs (XNode.ns zs) i, r.length <= 2048
   unfold dirRecs
   rw [hk]
   refine ⟨by simp only [List.length_cons, List.length_map]; omega, fun r hr => ?_⟩
   simp only [List.mem_cons, List.mem_map] at hr
   rcases hr with rfl | rfl | ⟨k, hkm, rfl⟩
   . rw [isoRec_length]; exact hrl _ _ (by decide) (by decide)
   . rw [isoRec_length]; exact hrl _ _ (by decide) (by decide)
   . have hkl : k < zs.length := by rw [h.1]; exact hx.kid k hkm
     unfold kidRec
     rw [isoRec_length]
     exact hrl _ _ (hid k hkl) (by have := hsu k hkl; omega)
theorem clenR_le {rock : Bool} {n : Nat} {zs : List XNode} (h : OkXs rock n zs) (i : Nat) (hi : i < zs.length) : clenR rock (XNode.ns zs) i <= 460000 := by
 unfold clenR
 split
 . obtain ⟨h1, h2⟩ := recsR_le h 1 i hi
   unfold dirBytesR
   rw [padSec_length, recs_length]
   have hf := foldLen_le ((recsR rock 1 (XNode.ns zs) i).map (·.length)) 0 (fun b hb => by obtain ⟨r, hr, rfl⟩ := List.mem_map.1 hb; exact h2 r hr)
   rw [List.length_map] at hf
   show secUp (((recsR rock 1 (XNode.ns zs) i).map (·.length)).foldl addLen 0) <= 460000
   unfold secUp
   split <;> omega
 . rw [nodeAt_ns zs i hi]
   have := (h.2 _ (List.getElem_mem hi)).data; omega
theorem blocks_clenR {rock : Bool} {n : Nat} {zs : List XNode} (h : OkXs rock n zs) (i : Nat) (hi : i < zs.length) : blocks (clenR rock (XNode.ns zs) i) <= 225 := by
 have := clenR_le h i hi
 unfold blocks; omega
end Go.Proofs.YtilgpaeeleknhaaGreatDoor
