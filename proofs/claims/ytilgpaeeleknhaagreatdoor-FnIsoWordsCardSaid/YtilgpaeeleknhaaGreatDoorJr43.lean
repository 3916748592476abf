/- A part of the proof of laws.FnIsoRock (see the last text). -/
import Derived.Test.YtilgpaeeleknhaaGreatDoorJr42
set_option linter.unusedSimpArgs false
set_option linter.unusedVariables false
set_option maxRecDepth 1000000
set_option maxHeartbeats 8000000
namespace Go.Proofs.YtilgpaeeleknhaaGreatDoor
section
open Go Go.RowKit Go.ChangeShapes Go.WideShapes Go.ChangeAt Go.Deep
theorem cells4' : Tryz.prog.cellsOf 4 = 1 := by kernel_rfl
theorem cells35' : Tryz.prog.cellsOf 35 = 1 := by kernel_rfl
theorem cells2' : Tryz.prog.cellsOf 2 = 1 := by kernel_rfl
theorem wf_kind {k : IntKind} {z a b : Int} (ha : k.min = a) (hb : k.max = b) (h : (Lit.int k z).wf = true) : a <= z /\ z <= b := by
 simp only [Lit.wf, Bool.and_eq_true, decide_eq_true_eq] at h
 rw [ha, hb] at h
 exact h
structure FileN (f : File) : Prop where
 t0 : -9223372036854775808 <= f.time
 t1 : f.time <= 9223372036854775807
 perm : f.perm < 4294967296
 uid : f.uid < 4294967296
 gid : f.gid < 4294967296
theorem bytes37 : Tryz.prog.bytesOf 37 = 80 := by kernel_rfl
section
variable {H : Type} {enc : TypeId × Value -> H} {w : World} {spare : Nat -> Bool} {held : Bool}
theorem one_file {cs : List Value} {n : Nat} {x : DataW H × List MemPlace} (hl : cs.length = 8) (h : DataW.trod enc Tryz.prog w 0 spare held n 37 cs = some x) :
 ∃ f : File, cs = f.cells /\ FileN f := by
 obtain ⟨ys, n', _, _, _, hyl, hf⟩ := DataW.trod_struct Tryz.underlying37 h
 match cs, hl with
 | [c0, c1, c2, c3, c4, c5, c6, c7], _ =>
   have h0 : DataW.trod enc Tryz.prog w 0 spare held n' 9 (([c0, c1, c2, c3, c4, c5, c6, c7].drop 0).take (Tryz.prog.cellsOf 9)) = ys[0]? := hf 0 _ rfl
   have h1 : DataW.trod enc Tryz.prog w 0 spare held n' 4 (([c0, c1, c2, c3, c4, c5, c6, c7].drop 1).take (Tryz.prog.cellsOf 4)) = ys[1]? := hf 1 _ rfl
   have h2 : DataW.trod enc Tryz.prog w 0 spare held n' 9 (([c0, c1, c2, c3, c4, c5, c6, c7].drop 2).take (Tryz.prog.cellsOf 9)) = ys[2]? := hf 2 _ rfl
   have h3 : DataW.trod enc Tryz.prog w 0 spare held n' 9 (([c0, c1, c2, c3, c4, c5, c6, c7].drop 3).take (Tryz.prog.cellsOf 9)) = ys[3]? := hf 3 _ rfl
   have h4 : DataW.trod enc Tryz.prog w 0 spare held n' 35 (([c0, c1, c2, c3, c4, c5, c6, c7].drop 4).take (Tryz.prog.cellsOf 35)) = ys[4]? := hf 4 _ rfl
   have h5 : DataW.trod enc Tryz.prog w 0 spare held n' 35 (([c0, c1, c2, c3, c4, c5, c6, c7].drop 5).take (Tryz.prog.cellsOf 35)) = ys[5]? := hf 5 _ rfl
   have h6 : DataW.trod enc Tryz.prog w 0 spare held n' 35 (([c0, c1, c2, c3, c4, c5, c6, c7].drop 6).take (Tryz.prog.cellsOf 35)) = ys[6]? := hf 6 _ rfl
   have h7 : DataW.trod enc Tryz.prog w 0 spare held n' 2 (([c0, c1, c2, c3, c4, c5, c6, c7].drop 7).take (Tryz.prog.cellsOf 2)) = ys[7]? := hf 7 _ rfl
   have hy8 : ys.length = 8 := hyl
   rw [cells9, List.getElem?_eq_getElem (by omega)] at h0
   rw [cells4', List.getElem?_eq_getElem (by omega)] at h1
   rw [cells9, List.getElem?_eq_getElem (by omega)] at h2
   rw [cells9, List.getElem?_eq_getElem (by omega)] at h3
   rw [cells35', List.getElem?_eq_getElem (by omega)] at h4
   rw [cells35', List.getElem?_eq_getElem (by omega)] at h5
   rw [cells35', List.getElem?_eq_getElem (by omega)] at h6
   rw [cells2', List.getElem?_eq_getElem (by omega)] at h7
   obtain ⟨p, e0, _⟩ := DataW.trod_string Tryz.underlying9 h0
   obtain ⟨d, e1, _⟩ := DataW.trod_bool Tryz.underlying4 h1
   obtain ⟨t, e2, _⟩ := DataW.trod_string Tryz.underlying9 h2
   obtain ⟨g, e3, _⟩ := DataW.trod_string Tryz.underlying9 h3
   obtain ⟨m, e4, _, w4⟩ := DataW.trod_int Tryz.underlying35 h4
   obtain ⟨u, e5, _, w5⟩ := DataW.trod_int Tryz.underlying35 h5
   obtain ⟨i, e6, _, w6⟩ := DataW.trod_int Tryz.underlying35 h6
   obtain ⟨z, e7, _, w7⟩ := DataW.trod_int Tryz.underlying2 h7
   cases e0; cases e1; cases e2; cases e3; cases e4; cases e5; cases e6; cases e7
   have b4 : 0 <= m /\ m <= 4294967295 := wf_kind rfl rfl w4
   have b5 : 0 <= u /\ u <= 4294967295 := wf_kind rfl rfl w5
   have b6 : 0 <= i /\ i <= 4294967295 := wf_kind rfl rfl w6
   have b7 : -9223372036854775808 <= z /\ z <= 9223372036854775807 := wf_kind rfl rfl w7
   obtain ⟨m, rfl⟩ : ∃ k : Nat, m = k := ⟨m.toNat, by omega⟩
   obtain ⟨u, rfl⟩ : ∃ k : Nat, u = k := ⟨u.toNat, by omega⟩
   obtain ⟨i, rfl⟩ : ∃ k : Nat, i = k := ⟨i.toNat, by omega⟩
   exact ⟨⟨p, d, t, g, m, u, i, z⟩, rfl, ⟨b7.1, b7.2, by show m < _; omega, by show u < _; omega, by show i < _; omega⟩⟩
theorem open_files {fuel : Nat} {cs : List Value} {x : DataW H × List MemPlace} (h : DataW.trod enc Tryz.prog w 0 spare held fuel 22 cs = some x) :
 ∃ (A : Option Addr) (fs : List File) (cap : Nat), cs = [.slice A fs.length cap] /\ fs.length <= cap /\ FilesR w w.heap.size A fs /\ (∀ f ∈ fs, FileN f) /\
  (fs = [] \/ ∃ elems sp, x.1 = .slice elems sp /\ elems.length = fs.length) := by
 rcases open_slice Tryz.underlying22 h with ⟨rfl, rfl⟩ | ⟨a, len, cap, m, n, D, Pl, rfl, _, hlc, _, hm, rfl, hx⟩
 . exact ⟨none, [], 0, rfl, Nat.le_refl _, (fun i hi => by cases hi), (fun f hf => by cases hf), .inl rfl⟩
 . have hlm : len <= m := by rw [hm]; split <;> omega
   rw [cells37] at hx
   have hch : ∀ i, i < len -> ∃ f : File, w.cells? 0 (a.add (i * 8)) 8 = some f.cells /\ FileN f := by
    intro i hi
    obtain ⟨cs', h1, h2⟩ := hx i (by omega)
    obtain ⟨_, hlen, _⟩ := World.cells?_some h1
    obtain ⟨f, rfl, ht⟩ := one_file hlen h2
    exact ⟨f, h1, ht⟩
   haveI : Inhabited File := ⟨⟨⟨#[]⟩, false, ⟨#[]⟩, ⟨#[]⟩, 0, 0, 0, 0⟩⟩
   obtain ⟨F, hF⟩ := choose_lt hch
   refine ⟨some a, (List.range len).map F, cap, by simp, by simpa using hlc, fun i hi => ?_, fun f hf => ?_, .inr ⟨_, _, rfl, by simp⟩⟩
   . have hil : i < len := by simpa using hi
     obtain ⟨_, _, hat⟩ := World.cells?_some (hF i hil).1
     obtain ⟨_, _, hat0⟩ := World.cells?_some (hF 0 (by omega)).1
     have z0 := hat0 0 (by decide)
     have hsp : a.spot = none := by simpa [Addr.add] using World.cell?_spot z0
     have hlt : a.block < w.heap.size := by simpa [Addr.add] using World.block_lt_of_cell? _ _ z0
     obtain ⟨b, o, sp⟩ := a
     simp only at hsp hlt
     subst hsp
     refine ⟨b, o, rfl, hlt, fun j v hj => ?_⟩
     have hj8 : j < 8 := (List.getElem?_eq_some_iff.1 hj).1
     have hj' := hat j hj8
     rw [List.getElem_map, List.getElem_range] at hj
     rw [<- hj, <- hj']
     congr 1
     unfold Addr.add
     by_cases c1 : i * 8 = 0 <;> by_cases c2 : j = 0 <;> simp [c1, c2] <;> omega
   . obtain ⟨i, hi, rfl⟩ := List.mem_map.1 hf
     exact (hF i (by simpa using hi)).2
end
end
end Go.Proofs.YtilgpaeeleknhaaGreatDoor
