/- A part of the proof of laws.FnIsoRock (see the last text). -/
import Derived.Test.YtilgpaeeleknhaaGreatDoorJr27
import Derived.Test.YtilgpaeeleknhaaGreatDoorJr24
set_option linter.unusedSimpArgs false
set_option linter.unusedVariables false
set_option maxRecDepth 1000000
set_option maxHeartbeats 8000000
namespace Go.Proofs.YtilgpaeeleknhaaGreatDoor
open Go Go.RowKit
theorem go_appRows {o : Oper} {a : Act} {w : World} {K : Act -> World -> Prop} {Q : Exit -> Act -> World -> Prop} {ty e k by' : Nat} (hty : Tryz.prog.underlying ty = some (.slice e)) (hinfo : (Tryz.prog.info? e).map (fun i => (i.zero.map (·.cells.size), i.size, i.bytes)) = some (some k, k, by')) (hk : 0 < k)
 (s x : Operand) (ho : o.op = .call { callee := .builtin .append, args := #[s, x], argTypes := #[ty, ty] })
 (B m n co cx b off : Nat) (A : Option Addr) (us vs : List Value) (hul : vs.length = n * k) (hu1 : ∀ u ∈ vs, u.oneCell' = true) (hs : a.eval s = .slice A m co) (hO : w.ownsRow B e k (.slice A m co) m us) (hx : a.eval x = .slice (some ⟨b, off, none⟩) n cx)
 (hsrc : ∀ j u, vs[j]? = some u -> w.cell? ⟨b, off + j, none⟩ = some u) (hm : m + n <= 1000000) (hn : 0 < n) (hby : by' <= 1000) (hB : B <= w.heap.size)
 (h : ∀ g c w', w'.ownsRow B e k (.slice (some ⟨g, 0, none⟩) (m + n) c) (m + n) (us ++ vs) -> Below B w w' -> w.grownBy w' (Value.slice A m co).ownBlock -> K (a.put o.dst (.slice (some ⟨g, 0, none⟩) (m + n) c)) w') : Oper.wp Tryz.prog o a w K Q := by
 obtain ⟨i, z, hi, hz, hzs, hsi, hbe⟩ := infoz hinfo
 have hb : (m + n) * by' <= 140737488355328 := by
  have : (m + n) * by' <= 1000000 * 1000 := Nat.mul_le_mul hm hby
  omega
 refine wp_append_own (P := Tryz.prog) _ s x ty ho B e i z k by' hty hi hz hsi hbe hzs hk _ _ _ hs hO ⟨b, off, none⟩ n cx vs hx hul ?_ hu1 (by unfold maxLen; omega) hb hB ?_
 . intro j u hu
   rw [Addr.add_mid]
   exact hsrc j u hu
 . intro v' w' hrow hgr _
   obtain ⟨A', c, rfl, hAg, _⟩ := ownsRow_shape hrow
   obtain ⟨g', rfl⟩ := hAg (by omega)
   exact h g' c w' hrow ((Below.refl B w).grown hgr hB (fun j hj => (World.ownsRow.lt hO j hj).1)) hgr
def fcells (fs : List File) : List Value := fs.flatMap File.cells
theorem fcells_cons (x : File) (fs : List File) : fcells (x :: fs) = x.cells ++ fcells fs := rfl
theorem fcells_length (fs : List File) : (fcells fs).length = fs.length * 8 := by
 induction fs with
 | nil => rfl
 | cons x fs ih => rw [fcells_cons, List.length_append, ih, List.length_cons]; simp only [File.cells, List.length_cons, List.length_nil]; omega
theorem fcells_get (xs : List File) (i : Nat) (h : i < xs.length) (j : Nat) (hj : j < 8) : (fcells xs)[i * 8 + j]? = xs[i].cells[j]? := by
 induction xs generalizing i with
 | nil => simp at h
 | cons x xs ih =>
   rw [fcells_cons]
   cases i with
   | zero => rw [List.getElem?_append_left (by simp; omega)]; simp
   | succ i =>
     rw [List.getElem?_append_right (by simp; omega)]
     have := ih i (by simpa using h)
     simp only [List.length_cons, List.length_nil, List.getElem_cons_succ]
     rw [<- this]
     congr 1
     omega
theorem fcells_set (xs : List File) (i : Nat) (h : i < xs.length) (j : Nat) (hj : j < 8) (u : Value) (y : File) (hy : y.cells = xs[i].cells.set j u) : (fcells xs).set (i * 8 + j) u = fcells (xs.set i y) := by
 induction xs generalizing i with
 | nil => simp at h
 | cons x xs ih =>
   cases i with
   | zero =>
     simp only [List.set_cons_zero, fcells_cons]
     rw [hy, List.set_append_left _ _ (by simp; omega)]
     simp
   | succ i =>
     simp only [List.set_cons_succ, fcells_cons]
     rw [List.set_append_right _ _ (by simp; omega), <- ih i (by simpa using h) (by simpa using hy)]
     congr 2
     simp; omega
theorem fcells_one (fs : List File) : ∀ u ∈ fcells fs, u.oneCell' = true := by
 intro u hu
 obtain ⟨f, _, hf⟩ := List.mem_flatMap.1 hu
 simp only [File.cells, List.mem_cons, List.not_mem_nil, or_false] at hf
 rcases hf with rfl | rfl | rfl | rfl | rfl | rfl | rfl | rfl <;> rfl
def FilesW (w : World) (B g n c : Nat) (fs : List File) : Prop := n = fs.length /\ w.ownsRow B 37 8 (.slice (some ⟨g, 0, none⟩) n c) n (fcells fs)
theorem FilesW.cell {w : World} {B g n c : Nat} {fs : List File} (h : FilesW w B g n c fs) (i : Nat) (hi : i < fs.length) (j : Nat) (u : Value) (hu : fs[i].cells[j]? = some u) : w.cell? ⟨g, i * 8 + j, none⟩ = some u := by
 have hj : j < 8 := (List.getElem?_eq_some_iff.1 hu).1
 have := World.ownsRow.cells h.2 (g := g) (by simp [Value.ownBlock]) (i * 8 + j) u (by rw [fcells_get fs i hi j hj]; exact hu)
 rwa [Addr.add_mid, Nat.zero_add] at this
theorem FilesW.lt {w : World} {B g n c : Nat} {fs : List File} (h : FilesW w B g n c fs) : B <= g /\ g < w.heap.size := World.ownsRow.lt h.2 g (by simp [Value.ownBlock])
theorem FilesW.frozen {w : World} {B g n c : Nat} {fs : List File} (h : FilesW w B g n c fs) (j : Nat) : w.frozen? ⟨g, j, none⟩ = false := World.ownsRow.frozenAt h.2 j
theorem FilesW.later {w w' : World} {B g n c : Nat} {fs : List File} (h : FilesW w B g n c fs) (hb : Below w.heap.size w w') : FilesW w' B g n c fs := ⟨h.1, ownsRow_later h.2 hb⟩
theorem FilesW.set {w : World} {B g n c : Nat} {fs : List File} (h : FilesW w B g n c fs) (i : Nat) (hi : i < fs.length) (j : Nat) (hj : j < 8) (u : Value) (y : File) (hy : y.cells = fs[i].cells.set j u) : FilesW (w.setCell ⟨g, i * 8 + j, none⟩ u) B g n c (fs.set i y) := by
 have hst := World.ownsRow.stored h.2 (i * 8 + j) u
 refine ⟨by rw [List.length_set]; exact h.1, ?_⟩
 have := hst.1
 rw [fcells_set fs i hi j hj u y hy] at this
 exact this
theorem FilesW.filesR {w : World} {B g n c : Nat} {fs : List File} (h : FilesW w B g n c fs) : FilesR w w.heap.size (some ⟨g, 0, none⟩) fs :=
 fun i hi => ⟨g, 0, rfl, h.lt.2, fun j u hu => by rw [Nat.zero_add]; exact h.cell i hi j u hu⟩
def tidyT (t : Int) : Int := t % 18446744073709551616 % 4102444800
def Tidied (f g : File) : Prop := ∃ t : ByteArray, LinkG t.data.toList /\ (t = f.target \/ t = ⟨#[97]⟩ /\ f.target.size ≠ 0) /\ g = { f with time := tidyT f.time, perm := f.perm &&& 511, target := t }
def TidyL (fs gs : List File) : Prop := gs.length = fs.length /\ ∀ i (h : i < fs.length) (h' : i < gs.length), Tidied fs[i] gs[i]
end Go.Proofs.YtilgpaeeleknhaaGreatDoor
