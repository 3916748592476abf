/- A part of the proof of laws.FnIsoRock (see the last text). -/
import Derived.Test.YtilgpaeeleknhaaGreatDoorJr05
import Derived.Lib.Strings
import Derived.Lib.IndexBytes
import Derived.Deep.QuietTactic
import Derived.BigQuiet
import Derived.WalkSmall
import Derived.Deep.MidRow
set_option linter.unusedSimpArgs false
set_option linter.unusedVariables false
set_option maxRecDepth 1000000
set_option maxHeartbeats 8000000
namespace Go.Proofs.YtilgpaeeleknhaaGreatDoor
open Go Go.RowKit
theorem string_eq {a b : ByteArray} (h : a.data.toList = b.data.toList) : Value.string a = Value.string b := by
 congr 1
 cases a; cases b
 simp only [ByteArray.mk.injEq] at *
 exact Array.ext' h
theorem ret2s_eq {a b c d : ByteArray} (h1 : a.data.toList = c.data.toList) (h2 : b.data.toList = d.data.toList) : Ending.returned (.tuple #[.string a, .string b]) = Ending.returned (.tuple #[.string c, .string d]) := by
 rw [string_eq h1, string_eq h2]
theorem base_any (s : ByteArray) (w : World) (h1 : s.size <= 4294967296) :
 Calls Tryz.prog 44 #[.string s] w fun e w' => e = .returned (.tuple #[.string (ofL (cutLast s.data.toList).1), .string (ofL (cutLast s.data.toList).2)]) /\ Below w.heap.size w w' := by
 have hsz : s.data.toList.length = s.size := by rw [Array.length_toList]; rfl
 have HS := Lib.hid hsz
 clear hsz
 go_enter Tryz.func44, Tryz.ntmps44
 go_wp2
 go_loopw [4] (fun i wr => ∃ k : Nat, k <= s.size /\ i = .int .i64 ((k : Int) - 1) /\ Hid (cutLast s.data.toList = cutAt s.data.toList k) /\ Below w.heap.size w wr) (fun i wr => (intOf i + 1).toNat)
 case atStart => exact ⟨s.size, by omega, rfl, by unfold cutLast; rw [HS.out]; rfl, Below.refl _ _⟩
 case round =>
  obtain ⟨k, hk, rfl, hc, hb⟩ := hrel
  cases k with
  | zero =>
    go_wp2
    go_ret2
    refine ⟨ret2s_eq ?_ ?_, hb⟩ <;> rw [hc.out] <;> simp [cutAt]
  | succ k =>
    have e1 : ((k + 1 : Nat) : Int) - 1 = k := by omega
    rw [e1]; clear e1
    have hg : s.data.toList.getD k 0 = s[k] := by
     rw [List.getD_eq_getElem?_getD, List.getElem?_eq_getElem (by rw [HS.out]; omega)]; rfl
    have HG := Lib.hid hg
    clear hg
    go_wp2
    . go_quiet (fail)
      go_wp2
      go_ret2
      refine ⟨ret2s_eq ?_ ?_, below_drewN hb _⟩
      all_goals
       rw [hc.out, cutAt, if_pos (by rw [HG.out]; have h := eq_of_beq ‹((s[k].toNat : Int) == 47) = true›; apply UInt8.toNat_inj.1; show s[k].toNat = 47; omega)]
      . simp [Lib.extract_data]
      . simp only [Lib.extract_data]; rw [List.take_of_length_le]; rw [List.length_drop, HS.out]; exact Nat.le_refl _
    . go_roundw
      case rel =>
       refine ⟨k, by omega, rfl, ?_, hb⟩
       have := hc.out
       rw [cutAt, if_neg (by rw [HG.out]; intro e; have h := ne_of_beq_false ‹((s[k].toNat : Int) == 47) = false›; apply h; rw [e]; rfl)] at this
       exact this
      case measure => simp [intOf]
theorem atLoad (n : TypeId) {x : Operand} {P : Program} {ops : Array Oper} {rest : List Oper} {Q : Exit -> Act -> World -> Prop} {a : Act} {w : World} {d : Option Tmp} {ty : TypeId} {pos : String} {aft : Array Edge} {g : Option (Nat × Bool)} (h : wpList P ops Q ({ dst := d, op := .load n x, type := ty, pos := pos, after := aft, guard := g } :: rest) a w) :
 wpList P ops Q ({ dst := d, op := .load n x, type := ty, pos := pos, after := aft, guard := g } :: rest) a w := h
theorem atStore (n : TypeId) {x y : Operand} {P : Program} {ops : Array Oper} {rest : List Oper} {Q : Exit -> Act -> World -> Prop} {a : Act} {w : World} {d : Option Tmp} {ty : TypeId} {pos : String} {aft : Array Edge} {g : Option (Nat × Bool)} (h : wpList P ops Q ({ dst := d, op := .store n x y, type := ty, pos := pos, after := aft, guard := g } :: rest) a w) :
 wpList P ops Q ({ dst := d, op := .store n x y, type := ty, pos := pos, after := aft, guard := g } :: rest) a w := h
theorem atConvert (n m : TypeId) {x : Operand} {P : Program} {ops : Array Oper} {rest : List Oper} {Q : Exit -> Act -> World -> Prop} {a : Act} {w : World} {d : Option Tmp} {ty : TypeId} {pos : String} {aft : Array Edge} {g : Option (Nat × Bool)} (h : wpList P ops Q ({ dst := d, op := .convert n m x, type := ty, pos := pos, after := aft, guard := g } :: rest) a w) :
 wpList P ops Q ({ dst := d, op := .convert n m x, type := ty, pos := pos, after := aft, guard := g } :: rest) a w := h
theorem atCopy {ar : Array Operand} {tys : Array TypeId} {P : Program} {ops : Array Oper} {rest : List Oper} {Q : Exit -> Act -> World -> Prop} {a : Act} {w : World} {d : Option Tmp} {ty : TypeId} {pos : String} {aft : Array Edge} {g : Option (Nat × Bool)} (h : wpList P ops Q ({ dst := d, op := .call { callee := .builtin .copy, args := ar, argTypes := tys }, type := ty, pos := pos, after := aft, guard := g } :: rest) a w) :
 wpList P ops Q ({ dst := d, op := .call { callee := .builtin .copy, args := ar, argTypes := tys }, type := ty, pos := pos, after := aft, guard := g } :: rest) a w := h
section
variable {P : Program} {ops : Array Oper} {rest : List Oper} {o : Oper} {a : Act} {w : World} {Q : Exit -> Act -> World -> Prop}
theorem setRow_alloc (w : World) (old cs : Array Value) (t : TypeId) : (w.alloc (.cells old t)).setRow w.heap.size cs = w.alloc (.cells cs t) := by
 unfold World.setRow World.alloc; congr 1; apply Array.ext
 . simp
 . intro i h1 h2
   rw [Array.getElem_modify]
   simp only [Array.getElem_push]
   by_cases hi : i = w.heap.size
   . subst hi; simp
   . rw [if_neg (fun e => hi e.symm)]
     have : i < w.heap.size := by simp at h2; omega
     simp [this]
theorem wpList_storeNew (hgd : o.guard = none) (ty : TypeId) (x y : Operand) (ho : o.op = .store ty x y)
 (w : World) (cells old : Array Value) (t : TypeId) (hx : a.eval x = .pointer (some ⟨w.heap.size, 0, none⟩)) (hy : a.eval y = .agg cells)
 (hi : (P.info? ty).map (·.size) = some cells.size) (hold : old.size = cells.size) (h1 : cells.toList.all (·.oneCell') = true)
 (h : wpList P ops Q rest (a.put o.dst undef) (w.alloc (.cells cells t))) : wpList P ops Q (o :: rest) a (w.alloc (.cells old t)) := by
 refine wpList_plain hgd fun _ hK => wp_store_row ty x y ho w.heap.size cells hx hy t old ?_ hi hold (by rw [<- Array.all_toList]; exact h1) ?_
 . show (w.heap.push _)[w.heap.size]? = _; simp
 . rw [setRow_alloc]; exact hK _ _ h
end
structure XNode extends Node where
 ka : Option Addr
 kc : Nat
 sa : Option Addr
 sc : Nat
 ma : Option Addr
 mc : Nat
abbrev XNode.cells (x : XNode) : List Value :=
 [.string x.f.path, .bool x.f.dir, .string x.f.data, .string x.f.target, .int .u32 x.f.perm, .int .u32 x.f.uid, .int .u32 x.f.gid, .int .i64 x.f.time, .string x.id, .int .i64 x.parent, .slice x.ka x.kids.length x.kc, .int .u32 x.extent, .int .u32 x.size, .slice x.sa x.su.length x.sc, .slice x.ma x.more.length x.mc, .int .u32 x.place, .int .i64 x.number, .int .i64 x.level]
def xcells (xs : List XNode) : List Value := xs.flatMap XNode.cells
theorem xcells_cons (x : XNode) (xs : List XNode) : xcells (x :: xs) = x.cells ++ xcells xs := rfl
theorem xcells_append (xs ys : List XNode) : xcells (xs ++ ys) = xcells xs ++ xcells ys := by simp [xcells]
theorem xcells_get (xs : List XNode) (i : Nat) (h : i < xs.length) (j : Nat) (hj : j < 18) : (xcells xs)[i * 18 + j]? = xs[i].cells[j]? := by
 induction xs generalizing i with
 | nil => simp at h
 | cons x xs ih =>
   rw [xcells_cons]
   cases i with
   | zero => rw [List.getElem?_append_left (by simp; omega)]; simp
   | succ i =>
     rw [List.getElem?_append_right (by simp; omega)]
     have := ih i (by simpa using h)
     simp only [List.length_cons, List.length_nil, List.getElem_cons_succ]
     rw [<- this]
     congr 1
     omega
theorem xcells_set (xs : List XNode) (i : Nat) (h : i < xs.length) (j : Nat) (hj : j < 18) (u : Value) (y : XNode) (hy : y.cells = xs[i].cells.set j u) : (xcells xs).set (i * 18 + j) u = xcells (xs.set i y) := by
 induction xs generalizing i with
 | nil => simp at h
 | cons x xs ih =>
   cases i with
   | zero =>
     simp only [List.set_cons_zero, xcells_cons]
     rw [hy, List.set_append_left _ _ (by simp; omega)]
     simp
   | succ i =>
     simp only [List.set_cons_succ, xcells_cons]
     rw [List.set_append_right _ _ (by simp; omega), <- ih i (by simpa using h) (by simpa using hy)]
     congr 2
     simp; omega
def NodesC (w : World) (g : Nat) (xs : List XNode) : Prop :=
 ∀ (i : Nat) (h : i < xs.length) (j : Nat) (u : Value), xs[i].cells[j]? = some u -> w.cell? ⟨g, i * 18 + j, none⟩ = some u
theorem NodesC.keep {w w' : World} {g B : Nat} {xs : List XNode} (h : NodesC w g xs) (hb : Below B w w') (hg : g < B) : NodesC w' g xs :=
 fun i hi j u hu => by rw [hb.cell (p := ⟨g, i * 18 + j, none⟩) hg]; exact h i hi j u hu
def placeOf (d : List UInt8) : List File -> Nat
 | [] => 0
 | f :: l => if f.dir && f.path.data.toList = d then 0 else placeOf d l + 1
def posOf (d : List UInt8) (l : List File) : Int := if placeOf d l < l.length then placeOf d l else -1
theorem placeOf_step (d : List UInt8) (l : List File) (k : Nat) (h : k < l.length) (hn : ¬ (l[k].dir = true /\ l[k].path.data.toList = d)) : placeOf d (l.drop k) = placeOf d (l.drop (k + 1)) + 1 := by
 rw [List.drop_eq_getElem_cons h, placeOf, if_neg (by simpa using hn)]
theorem placeOf_here (d : List UInt8) (l : List File) (k : Nat) (h : k < l.length) (hn : l[k].dir = true /\ l[k].path.data.toList = d) : placeOf d (l.drop k) = 0 := by
 rw [List.drop_eq_getElem_cons h, placeOf, if_pos (by simpa using hn)]
abbrev xfiles (xs : List XNode) : List File := xs.map (fun x => x.f)
theorem info64 : (Tryz.prog.info? 64).map (·.size) = some 18 := by kernel_rfl
theorem under64' : (Tryz.prog.underlying 64).map (·.isRow) = some true := by kernel_rfl
theorem under64 : ∃ d, Tryz.prog.underlying 64 = some d /\ d.isRow = true := by
 have h := under64'
 cases he : Tryz.prog.underlying 64 with
 | none => rw [he] at h; simp at h
 | some d => rw [he] at h; exact ⟨d, rfl, by simpa using h⟩
theorem wpList_loadNode {ops : Array Oper} {rest : List Oper} {o : Oper} {a : Act} {w : World} {Q : Exit -> Act -> World -> Prop} (hgd : o.guard = none) (x : Operand) (ho : o.op = .load 64 x)
 {g i : Nat} {ns : List XNode} (hx : a.eval x = .pointer (some ⟨g, i * 18, none⟩)) (h : NodesC w g ns) (hi : i < ns.length)
 (hK : wpList Tryz.prog ops Q rest (a.put o.dst (.agg #[.string ns[i].f.path, .bool ns[i].f.dir, .string ns[i].f.data, .string ns[i].f.target, .int .u32 ns[i].f.perm, .int .u32 ns[i].f.uid, .int .u32 ns[i].f.gid, .int .i64 ns[i].f.time, .string ns[i].id, .int .i64 ns[i].parent, .slice ns[i].ka ns[i].kids.length ns[i].kc, .int .u32 ns[i].extent, .int .u32 ns[i].size, .slice ns[i].sa ns[i].su.length ns[i].sc, .slice ns[i].ma ns[i].more.length ns[i].mc, .int .u32 ns[i].place, .int .i64 ns[i].number, .int .i64 ns[i].level])) w) :
 wpList Tryz.prog ops Q (o :: rest) a w := by
 obtain ⟨d, hd, hr⟩ := under64
 exact wpList_load_mid hgd 64 x ho g (i * 18) hx ns[i].cells d (h i hi) hd hr info64 hK
theorem isoPlace_any (g cap : Nat) (ns : List XNode) (d : ByteArray) (w : World) (hns : ns.length <= cap) (hl : ns.length <= 1000000) (hg : g < w.heap.size) (hc : NodesC w g ns) :
 Calls Tryz.prog 45 #[.slice (some ⟨g, 0, none⟩) ns.length cap, .string d] w fun e w' => e = .returned (.int .i64 (posOf d.data.toList (xfiles ns))) /\ Below w.heap.size w w' := by
 have HC := Lib.hid hc
 clear hc
 go_enter Tryz.func45, Tryz.ntmps45
 go_wp2_with fail
 go_loopw [9] (fun i wr => ∃ k : Nat, k <= ns.length /\ i = .int .i64 k /\ Hid (placeOf d.data.toList (xfiles ns) = placeOf d.data.toList ((xfiles ns).drop k) + k) /\ Below w.heap.size w wr) (fun i wr => ns.length - (intOf i).toNat)
 case atStart => exact ⟨0, by omega, rfl, by simp [Hid], Below.refl _ _⟩
 case round =>
  obtain ⟨k, hk, rfl, hp, hb⟩ := hrel
  by_cases hlt : k < ns.length
  . have hcc : NodesC wr g ns := fun i h j u hu => by rw [hb.cell (p := ⟨g, i * 18 + j, none⟩) hg]; exact HC.out i h j u hu
    have HCC := Lib.hid hcc
    clear hcc
    go_wp2_with (first | (refine atLoad 64 ?_; go_must (refine wpList_loadNode rfl _ rfl rfl HCC.out hlt ?_)) | (refine atStore 64 ?_; go_must (refine wpList_storeNew rfl 64 _ _ rfl _ _ _ _ rfl rfl (by exact info64) (by rfl) (by rfl) ?_)))
    . go_ret
      have hq := placeOf_here d.data.toList (xfiles ns) k (by simpa using hlt) ⟨by simpa using ‹ns[k].f.dir = true›, by simp only [List.getElem_map]; rw [<- Lib.toList_data, <- Lib.toList_data]; exact eq_of_beq (by assumption)⟩
      have hz := hp.out
      rw [hq] at hz
      refine ⟨by rw [posOf, hz, if_pos (by simp; omega)]; simp, ?_⟩
      exact hb.alloc hb.size _
    . go_roundw
      case rel =>
       have hq := placeOf_step d.data.toList (xfiles ns) k (by simpa using hlt) (by simp only [List.getElem_map]; rintro ⟨_, h⟩; have hf := ‹(ns[k].f.path.toList == d.toList) = false›; rw [Lib.toList_data, Lib.toList_data, h, beq_self_eq_true] at hf; cases hf)
       refine ⟨k + 1, hlt, by simp, ?_, ?_⟩
       . have := hp.out; unfold Hid; omega
       . exact hb.alloc hb.size _
      case measure => simp [intOf]; omega
    . go_roundw
      case rel =>
       have hq := placeOf_step d.data.toList (xfiles ns) k (by simpa using hlt) (by simp only [List.getElem_map]; rintro ⟨h, _⟩; exact absurd h (by assumption))
       refine ⟨k + 1, hlt, by simp, ?_, ?_⟩
       . have := hp.out; unfold Hid; omega
       . exact hb.alloc hb.size _
      case measure => simp [intOf]; omega
  . have hk' : k = ns.length := by omega
    subst hk'
    go_wp2_with fail
    go_ret
    have hz := hp.out
    rw [List.drop_of_length_le (by simp)] at hz
    refine ⟨by rw [posOf, hz, placeOf, if_neg (by simp)]; rfl, hb⟩
end Go.Proofs.YtilgpaeeleknhaaGreatDoor
