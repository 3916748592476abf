/-
  DERIVED. A part of the proof of laws.FnIsoPaths (for every input the law returns true and each argument reads as before; the listed variables read as listed when the call begins). It holds:
  · The nodes while an image is made: what is kept, and what a call of isoRecords and isoPaths gives there.
-/
import Derived.Test.YtilgpaeeleknhaaGreatDoorIq23
import Derived.Test.YtilgpaeeleknhaaGreatDoorIq14
section
namespace Go.Proofs.YtilgpaeeleknhaaGreatDoor
open Go Go.RowKit
set_option linter.unusedSimpArgs false
set_option linter.unusedVariables false

/-- What holds of each node while an image is made. -/
structure OkX (n : Nat) (x : XNode) : Prop where
  su : x.su = []
  more : x.more = []
  id : x.id.size ≤ 1000
  data : x.f.data.size ≤ 60000
  t0 : -9223372036854775808 ≤ x.f.time
  t1 : x.f.time ≤ 9223372036854775807
  par : x.parent < n
  kid : ∀ k ∈ x.kids, k < n
  kids : x.kids.length ≤ 100
  ext : x.extent < 1000000
  size : x.size < 1000000
  num : x.number ≤ 100
def OkXs (n : Nat) (zs : List XNode) : Prop := zs.length = n ∧ ∀ x ∈ zs, OkX n x
theorem OkXs.set {n : Nat} {zs : List XNode} (h : OkXs n zs) (i : Nat) (hi : i < zs.length) (e s : Nat) (he : e < 1000000) (hs : s < 1000000) : OkXs n (zs.set i { zs[i] with extent := e, size := s }) := by
  refine ⟨by rw [List.length_set]; exact h.1, fun x hx => ?_⟩
  rcases List.mem_or_eq_of_mem_set hx with hx | rfl
  · exact h.2 x hx
  · have := h.2 _ (List.getElem_mem hi)
    exact ⟨this.su, this.more, this.id, this.data, this.t0, this.t1, this.par, this.kid, this.kids, he, hs, this.num⟩
theorem ns_set (zs : List XNode) (i : Nat) (hi : i < zs.length) (e s : Nat) : XNode.ns (zs.set i { zs[i] with extent := e, size := s }) = setExt (XNode.ns zs) i e s := by
  unfold setExt
  rw [nodeAt_ns zs i hi]
  simp only [XNode.ns, List.map_set]
structure IS (w0 w : World) (g c n Bd co : Nat) (A : Option Addr) (zs : List XNode) (ds : List Nat) : Prop where
  nodes : NodesW w w0.heap.size (.slice (some ⟨g, 0, none⟩) n c) zs
  ok : OkXs n zs
  dirs : OwnI w Bd (.slice A ds.length co) ds
  below : Below w0.heap.size w0 w
theorem IS.lt {w0 w : World} {g c n Bd co : Nat} {A : Option Addr} {zs : List XNode} {ds : List Nat} (h : IS w0 w g c n Bd co A zs ds) : g < w.heap.size ∧ w0.heap.size ≤ g := by
  have := h.nodes.len_le h.ok.1.symm
  exact ⟨this.2.2, this.2.1⟩
theorem IS.later {w0 w w' : World} {g c n Bd co : Nat} {A : Option Addr} {zs : List XNode} {ds : List Nat} (h : IS w0 w g c n Bd co A zs ds) (hb : Below w.heap.size w w') : IS w0 w' g c n Bd co A zs ds :=
  ⟨h.nodes.later hb, h.ok, ownsRow_later h.dirs hb, h.below.trans (hb.mono h.below.size)⟩
theorem IS.cell {w0 w : World} {g c n Bd co : Nat} {A : Option Addr} {zs : List XNode} {ds : List Nat} (h : IS w0 w g c n Bd co A zs ds) (i : Nat) (hi : i < zs.length) (j : Nat) (u : Value) (hu : zs[i].cells[j]? = some u) : w.cell? ⟨g, i * 18 + j, none⟩ = some u := h.nodes.cells i hi j u hu
theorem IS.frozen {w0 w : World} {g c n Bd co : Nat} {A : Option Addr} {zs : List XNode} {ds : List Nat} (h : IS w0 w g c n Bd co A zs ds) (j : Nat) : w.frozen? ⟨g, j, none⟩ = false := h.nodes.frozen h.ok.1.symm j
theorem IS.kept {w0 w w' : World} {g c n Bd co : Nat} {A : Option Addr} {zs : List XNode} {ds : List Nat} (h : IS w0 w g c n Bd co A zs ds) (hg : w.grownBy w' (some g)) : OwnI w' Bd (.slice A ds.length co) ds :=
  World.ownsRow.kept h.dirs hg (by
    have := rows_ne h.dirs h.nodes.row (by decide)
    exact this)
theorem IS.store {w0 w : World} {g c n Bd co : Nat} {A : Option Addr} {zs : List XNode} {ds : List Nat} (h : IS w0 w g c n Bd co A zs ds) (i : Nat) (hi : i < zs.length) (e s : Nat) (he : e < 1000000) (hs : s < 1000000) :
    IS w0 ((w.setCell ⟨g, i * 18 + 11, none⟩ (.int .u32 e)).setCell ⟨g, i * 18 + 12, none⟩ (.int .u32 s)) g c n Bd co A (zs.set i { zs[i] with extent := e, size := s }) ds ∧
    (w.setCell ⟨g, i * 18 + 11, none⟩ (.int .u32 e)).cell? ⟨g, i * 18 + 12, none⟩ = some (.int .u32 zs[i].size) ∧ (w.setCell ⟨g, i * 18 + 11, none⟩ (.int .u32 e)).frozen? ⟨g, i * 18 + 12, none⟩ = false := by
  obtain ⟨hN1, hg1⟩ := h.nodes.setField h.ok.1.symm i hi 11 (by decide) (.int .u32 e) { zs[i] with extent := e } rfl ⟨rfl, rfl, rfl, rfl, rfl, rfl, rfl, rfl, rfl⟩
  have hl1 : n = (zs.set i { zs[i] with extent := e }).length := by rw [List.length_set]; exact h.ok.1.symm
  have hi1 : i < (zs.set i { zs[i] with extent := e }).length := by rw [List.length_set]; exact hi
  obtain ⟨hN2, hg2⟩ := hN1.setField hl1 i hi1 12 (by decide) (.int .u32 s) { zs[i] with extent := e, size := s } (by simp) (by simp [SameMem])
  rw [List.set_set] at hN2
  have hd1 := h.kept hg1
  have hd2 := World.ownsRow.kept hd1 hg2 (rows_ne hd1 hN1.row (by decide))
  have hc := hN1.cells i hi1 12 (.int .u32 zs[i].size) (by simp)
  refine ⟨⟨hN2, h.ok.set i hi e s he hs, hd2, ?_⟩, hc, hN1.frozen hl1 _⟩
  exact (h.below.setCell h.lt.2 _).setCell h.lt.2 _
theorem IS.records {w0 w : World} {g c n Bd co : Nat} {A : Option Addr} {zs : List XNode} {ds : List Nat} (h : IS w0 w g c n Bd co A zs ds) (i area : Nat) (hi : i < zs.length) (hn : n ≤ 100) :
    Calls Tryz.prog 33 #[.slice (some ⟨g, 0, none⟩) n c, .int .i64 i, .bool false, .int .u32 area] w fun e w' => ∃ A' c' q, e = .returned (.slice A' q c') ∧ Hid ((dirBytes (XNode.ns zs) i).length = q) ∧ Own w' w.heap.size (.slice A' q c') (dirBytes (XNode.ns zs) i) ∧ Below w.heap.size w w' := by
  have hl := h.ok.1
  have hN := h.nodes
  subst hl
  have ok : ∀ (j : Nat) (hj : j < zs.length), OkX zs.length zs[j] := fun j hj => h.ok.2 _ (List.getElem_mem hj)
  refine (isoRecords_any w0.heap.size g c i zs[i].parent area zs w hN (by omega) hi rfl (ok i hi).par (ok i hi).kid (by have := (ok i hi).kids; omega) (fun j hj => by rw [(ok j hj).su]; decide) (fun j hj => (ok j hj).more) (fun j hj => (ok j hj).id)
    (fun j hj => by have := (ok j hj).ext; omega) (fun j hj => by have := (ok j hj).size; omega) (fun j hj => ⟨(ok j hj).t0, (ok j hj).t1⟩)).mono ?_
  rintro e w' ⟨A', c', rfl, hO, hb⟩
  exact ⟨A', c', _, rfl, rfl, hO, hb⟩
theorem IS.paths {w0 w : World} {g c n Bd co : Nat} {A : Option Addr} {zs : List XNode} {ds : List Nat} (h : IS w0 w g c n Bd co A zs ds) (little : Bool) (hd : ∀ d ∈ ds, d < zs.length) (hdl : ds.length ≤ 100) :
    Calls Tryz.prog 31 #[.slice (some ⟨g, 0, none⟩) n c, .slice A ds.length co, .bool little] w fun e w' => ∃ A' c' q, e = .returned (.slice A' q c') ∧ Hid ((pathsL (XNode.ns zs) little ds).length = q) ∧ Own w' w.heap.size (.slice A' q c') (pathsL (XNode.ns zs) little ds) ∧ Below w.heap.size w w' := by
  have hl := h.ok.1
  have hN := h.nodes
  subst hl
  have ok : ∀ (j : Nat) (hj : j < zs.length), OkX zs.length zs[j] := fun j hj => h.ok.2 _ (List.getElem_mem hj)
  refine (isoPaths_any g c co A zs ds little Bd w hN.cells h.lt.1 h.dirs (by omega) hd (fun j hj => (ok j hj).par) (fun j hj => by have := (ok j hj).id; omega) (fun j hj => by have := (ok j hj).ext; omega) (fun j hj => by have := (ok j hj).num; omega)).mono ?_
  rintro e w' ⟨A', c', rfl, hO, hb⟩
  exact ⟨A', c', _, rfl, rfl, hO, hb⟩
theorem pathsL_length (ns : List Node) (little : Bool) (ds : List Nat) : (pathsL ns little ds).length = (ds.map (fun i => 8 + evn (pathId ns i).length)).sum := by
  induction ds with
  | nil => rfl
  | cons d ds ih =>
    have e : pathsL ns little (d :: ds) = pathRec ns little d ++ pathsL ns little ds := rfl
    rw [e, List.length_append, ih, List.map_cons, List.sum_cons]
    congr 1
    unfold pathRec
    simp only [List.length_append, putL_length, List.length_cons, List.length_nil]
    unfold evn
    split <;> simp <;> omega
theorem addLen_le (o b : Nat) : addLen o b ≤ o + 2048 + b := by
  have := Nat.mod_lt o (show 0 < 2048 by decide)
  unfold addLen; split <;> omega
theorem foldLen_le (l : List Nat) (o : Nat) (h : ∀ b ∈ l, b ≤ 2048) : l.foldl addLen o ≤ o + l.length * 4096 := by
  induction l generalizing o with
  | nil => simp
  | cons b l ih =>
    have h1 := addLen_le o b
    have h2 := h b (by simp)
    have h3 := ih (addLen o b) (fun x hx => h x (by simp [hx]))
    simp only [List.foldl_cons, List.length_cons]
    omega
theorem clen_le {n : Nat} {zs : List XNode} (h : OkXs n zs) (i : Nat) (hi : i < zs.length) : clen (XNode.ns zs) i ≤ 460000 := by
  have hx := h.2 _ (List.getElem_mem hi)
  unfold clen
  split
  · rw [dirBytes_length]
    have hk : kidsOf (XNode.ns zs) i = zs[i].kids := by
      show (nodeAt (XNode.ns zs) i).kids = _; rw [nodeAt_ns zs i hi]
    rw [hk]
    have hf := foldLen_le (34 :: 34 :: zs[i].kids.map (fun k => recLen (nodeAt (XNode.ns zs) k).id.data.toList.length (nodeAt (XNode.ns zs) k).su.length)) 0 (by
      intro b hb
      simp only [List.mem_cons, List.mem_map] at hb
      rcases hb with rfl | rfl | ⟨k, hk, rfl⟩
      · decide
      · decide
      · have hkn := hx.kid k hk
        have hkl : k < zs.length := by rw [h.1]; exact hkn
        have hy := h.2 _ (List.getElem_mem hkl)
        rw [nodeAt_ns zs k hkl, hy.su]
        have := hy.id
        have hs : (zs[k].id.data.toList).length = zs[k].id.size := by rw [Array.length_toList]; rfl
        rw [hs]
        unfold recLen evn
        simp only [List.length_nil]
        split <;> split <;> omega)
    simp only [List.length_cons, List.length_map] at hf
    have := hx.kids
    unfold secUp
    split <;> omega
  · rw [nodeAt_ns zs i hi]
    have := hx.data; omega
theorem blocks_clen {n : Nat} {zs : List XNode} (h : OkXs n zs) (i : Nat) (hi : i < zs.length) : blocks (clen (XNode.ns zs) i) ≤ 225 := by
  have := clen_le h i hi
  unfold blocks; omega
end Go.Proofs.YtilgpaeeleknhaaGreatDoor
end
