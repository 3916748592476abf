/- A part of the proof of laws.FnIsoRock (see the last text). -/
import Derived.Test.YtilgpaeeleknhaaGreatDoorJr23
import Derived.Test.YtilgpaeeleknhaaGreatDoorJr17
import Derived.Test.YtilgpaeeleknhaaGreatDoorJr31
set_option linter.unusedSimpArgs false
set_option linter.unusedVariables false
set_option maxRecDepth 1000000
set_option maxHeartbeats 8000000
namespace Go.Proofs.YtilgpaeeleknhaaGreatDoor
open Go Go.RowKit
theorem gen_world {P : Program} {c : Code} {Q : Exit -> Act -> World -> Prop} {a : Act} {w : World} (F : World -> Prop) (h : F w) (k : ∀ W, F W -> Code.wp P c Q a W) : Code.wp P c Q a w := k w h
def nums (l : List UInt8) : List Int := l.map fun b => (b.toNat : Int)
theorem srcO_bytes {w : World} {D o : Nat} {l : List UInt8} (h : SrcO w D o l) : Lib.BytesIn w (some ⟨D, o, none⟩) l.length (nums l) := by
 intro hn
 refine ⟨D, o, rfl, fun i hi => ?_⟩
 have := h.2 i l[i] (List.getElem?_eq_getElem hi)
 rw [this]
 unfold nums BV
 simp [List.getD, hi]
theorem SrcO.part {w : World} {D : Nat} {l m : List UInt8} {o k : Nat} (h : SrcO w D o l) (hm : Holds l k m) : SrcO w D (o + k) m :=
 ⟨h.1, fun j b hj => by
  have hjl := (List.getElem?_eq_some_iff.1 hj).1
  rw [Nat.add_assoc]
  exact h.2 (k + j) b (by rw [hm j hjl]; exact hj)⟩
abbrev T0 : Obj := .cells #[.int .i64 0, .int .i64 0, .int .i64 0] 160
structure P5 (w0 W : World) (D N : Nat) (bs : List UInt8) : Prop where
 src : SrcO W D 0 bs
 nul : SrcO W N 0 nul17
 t7 : W.heap[N + 1]? = some T0
 t8 : W.heap[N + 2]? = some T0
 t9 : W.heap[N + 3]? = some T0
 t10 : W.heap[N + 4]? = some T0
 below : Below w0.heap.size w0 W
 hN : w0.heap.size <= N
abbrev TX (x a : Int) : Obj := .cells #[.int .i64 x, .int .i64 0, .int .i64 a] 160
structure PD (w0 W : World) (D N : Nat) (bs : List UInt8) : Prop where
 src : SrcO W D 0 bs
 nul : SrcO W N 0 nul17
 t7 : ∃ x a, W.heap[N + 1]? = some (TX x a)
 t8 : ∃ x a, W.heap[N + 2]? = some (TX x a)
 t9 : ∃ x a, W.heap[N + 3]? = some (TX x a)
 t10 : ∃ x a, W.heap[N + 4]? = some (TX x a)
 below : Below w0.heap.size w0 W
 hN : w0.heap.size <= N
 hD : D < w0.heap.size
theorem P5.pd {w0 W : World} {D N : Nat} {bs : List UInt8} (h : P5 w0 W D N bs) (hD : D < w0.heap.size) : PD w0 W D N bs := ⟨h.src, h.nul, ⟨0, 0, h.t7⟩, ⟨0, 0, h.t8⟩, ⟨0, 0, h.t9⟩, ⟨0, 0, h.t10⟩, h.below, h.hN, hD⟩
theorem blk_later {w w' : World} {k : Nat} {o : Obj} (h : w.heap[k]? = some o) (hb : Below w.heap.size w w') : w'.heap[k]? = some o := (hb.block k (Array.getElem?_eq_some_iff.1 h).1).trans h
theorem PD.later {w0 W W' : World} {D N : Nat} {bs : List UInt8} (h : PD w0 W D N bs) (hb : Below W.heap.size W W') : PD w0 W' D N bs := by
 obtain ⟨x7, a7, h7⟩ := h.t7
 obtain ⟨x8, a8, h8⟩ := h.t8
 obtain ⟨x9, a9, h9⟩ := h.t9
 obtain ⟨x10, a10, h10⟩ := h.t10
 exact ⟨h.src.later hb, h.nul.later hb, ⟨x7, a7, blk_later h7 hb⟩, ⟨x8, a8, blk_later h8 hb⟩, ⟨x9, a9, blk_later h9 hb⟩, ⟨x10, a10, blk_later h10 hb⟩, h.below.trans (hb.mono h.below.size), h.hN, h.hD⟩
theorem three_heap {w : World} {K k : Nat} {x y z : Value} (hne : k ≠ K) : (((w.setCell ⟨K, 0, none⟩ x).setCell ⟨K, 1, none⟩ y).setCell ⟨K, 2, none⟩ z).heap[k]? = w.heap[k]? := by
 rw [heap_setCell_other _ _ _ _ (by exact hne), heap_setCell_other _ _ _ _ (by exact hne), heap_setCell_other _ _ _ _ (by exact hne)]
theorem srcO_set {w : World} {D o K : Nat} {l : List UInt8} {x y z : Value} (h : SrcO w D o l) (hne : D ≠ K) : SrcO (((w.setCell ⟨K, 0, none⟩ x).setCell ⟨K, 1, none⟩ y).setCell ⟨K, 2, none⟩ z) D o l :=
 ⟨by simpa using h.1, fun j b hj => three_keep (h.2 j b hj) hne⟩
theorem PD.set {w0 W : World} {D N : Nat} {bs : List UInt8} (h : PD w0 W D N bs) (i : Nat) (hi : 1 <= i /\ i <= 4) (x a : Int) : PD w0 (((W.setCell ⟨N + i, 0, none⟩ (.int .i64 x)).setCell ⟨N + i, 1, none⟩ (.int .i64 0)).setCell ⟨N + i, 2, none⟩ (.int .i64 a)) D N bs := by
 have hh : ∀ j, 1 <= j -> (∃ x a, W.heap[N + j]? = some (TX x a)) -> ∃ x' a', (((W.setCell ⟨N + i, 0, none⟩ (.int .i64 x)).setCell ⟨N + i, 1, none⟩ (.int .i64 0)).setCell ⟨N + i, 2, none⟩ (.int .i64 a)).heap[N + j]? = some (TX x' a') := by
  intro j _ hj
  obtain ⟨xj, aj, hj⟩ := hj
  by_cases e : j = i
  . subst e; exact ⟨x, a, three_set hj⟩
  . exact ⟨xj, aj, by rw [three_heap (by omega)]; exact hj⟩
 have hwN := h.hN
 have hDw := h.hD
 refine ⟨srcO_set h.src (by omega), srcO_set h.nul (by omega), hh 1 (by decide) h.t7, hh 2 (by decide) h.t8, hh 3 (by decide) h.t9, hh 4 (by decide) h.t10, ?_, h.hN, h.hD⟩
 have hk : w0.heap.size <= N + i := by omega
 exact ((h.below.setCell hk _).setCell hk _).setCell hk _
theorem p5_of {w w2 : World} {D : Nat} {bs : List UInt8} (hb : Below w.heap.size w w2) (hK : ∀ W, Below w.heap.size w W -> SrcO W D 0 bs) : P5 w (((((w2.alloc (.cells (BVs nul17).toArray 5)).alloc T0).alloc T0).alloc T0).alloc T0) D w2.heap.size bs := by
 obtain ⟨W1, h1⟩ : ∃ W1, w2.alloc (.cells (BVs nul17).toArray 5) = W1 := ⟨_, rfl⟩
 have s1 : W1.heap.size = w2.heap.size + 1 := by rw [<- h1]; simp
 have n1 : W1.heap[w2.heap.size]? = some (.cells (BVs nul17).toArray 5) := by rw [<- h1]; exact heap_alloc_new w2 _
 have b1 : Below w.heap.size w W1 := by rw [<- h1]; exact hb.alloc hb.size _
 rw [h1]
 obtain ⟨W2, h2⟩ : ∃ W2, W1.alloc T0 = W2 := ⟨_, rfl⟩
 have s2 : W2.heap.size = w2.heap.size + 2 := by rw [<- h2]; simp; omega
 have n2 : W2.heap[w2.heap.size + 1]? = some T0 := by rw [<- h2, <- s1]; exact heap_alloc_new W1 _
 have c2 : Below W1.heap.size W1 W2 := by rw [<- h2]; exact (Below.refl _ _).alloc (Nat.le_refl _) _
 rw [h2]
 obtain ⟨W3, h3⟩ : ∃ W3, W2.alloc T0 = W3 := ⟨_, rfl⟩
 have s3 : W3.heap.size = w2.heap.size + 3 := by rw [<- h3]; simp; omega
 have n3 : W3.heap[w2.heap.size + 2]? = some T0 := by rw [<- h3, <- s2]; exact heap_alloc_new W2 _
 have c3 : Below W2.heap.size W2 W3 := by rw [<- h3]; exact (Below.refl _ _).alloc (Nat.le_refl _) _
 rw [h3]
 obtain ⟨W4, h4⟩ : ∃ W4, W3.alloc T0 = W4 := ⟨_, rfl⟩
 have s4 : W4.heap.size = w2.heap.size + 4 := by rw [<- h4]; simp; omega
 have n4 : W4.heap[w2.heap.size + 3]? = some T0 := by rw [<- h4, <- s3]; exact heap_alloc_new W3 _
 have c4 : Below W3.heap.size W3 W4 := by rw [<- h4]; exact (Below.refl _ _).alloc (Nat.le_refl _) _
 rw [h4]
 obtain ⟨W5, h5⟩ : ∃ W5, W4.alloc T0 = W5 := ⟨_, rfl⟩
 have n5 : W5.heap[w2.heap.size + 4]? = some T0 := by rw [<- h5, <- s4]; exact heap_alloc_new W4 _
 have c5 : Below W4.heap.size W4 W5 := by rw [<- h5]; exact (Below.refl _ _).alloc (Nat.le_refl _) _
 rw [h5]
 have hsz := hb.size
 have d2 : Below w.heap.size w W5 := (((b1.trans (c2.mono (by omega))).trans (c3.mono (by omega))).trans (c4.mono (by omega))).trans (c5.mono (by omega))
 have e2 : Below (w2.heap.size + 1) W1 W5 := (((c2.mono (by omega)).trans (c3.mono (by omega))).trans (c4.mono (by omega))).trans (c5.mono (by omega))
 refine ⟨hK _ d2, ⟨by have := e2.size; omega, fun j b hj => ?_⟩, ?_, ?_, ?_, n5, d2, hsz⟩
 . rw [Nat.zero_add, e2.cell (p := ⟨w2.heap.size, j, none⟩) (by show w2.heap.size < w2.heap.size + 1; omega)]
   simp only [World.cell?, n1]
   have : (BVs nul17)[j]? = some (BV b) := by unfold BVs; rw [List.getElem?_map, hj]; rfl
   simpa using this
 . rw [c5.block _ (by omega), c4.block _ (by omega), c3.block _ (by omega)]; exact n2
 . rw [c5.block _ (by omega), c4.block _ (by omega)]; exact n3
 . rw [c5.block _ (by omega)]; exact n4
theorem conv_part {W : World} {D : Nat} {bs : List UInt8} (h : SrcO W D 0 bs) (k n c : Nat) (hk : k + n <= bs.length) : (convert 27 9 (.slice (some ⟨D, k, none⟩) n c)).run Tryz.prog W = .ok (.string (ofL ((bs.drop k).take n))) W := by
 have hl : ((bs.drop k).take n).length = n := by rw [List.length_take, List.length_drop]; omega
 have := run_convert_bytes_back (P := Tryz.prog) W 27 9 5 ⟨D, k, none⟩ c ((bs.drop k).take n) Tryz.underlying27 under5 Tryz.underlying9 (fun j hj => by
  rw [Addr.add_mid]
  have h1 := h.2 (k + j) ((bs.drop k).take n)[j] (by
   rw [<- List.getElem?_eq_getElem hj, List.getElem?_take, if_pos (by omega), List.getElem?_drop])
  rw [Nat.zero_add] at h1
  exact h1)
 rw [hl] at this
 exact this
theorem src_at {W : World} {D : Nat} {bs : List UInt8} (h : SrcO W D 0 bs) (k : Nat) (hk : k < bs.length) : W.cell? ⟨D, k, none⟩ = some (.int .u8 ((bs.getD k 0).toNat : Int)) := by
 have := h.2 k bs[k] (List.getElem?_eq_getElem hk)
 rw [Nat.zero_add] at this
 rw [this, List.getD_eq_getElem?_getD, List.getElem?_eq_getElem hk]; rfl
def le4 (bs : List UInt8) (k : Nat) : Nat := Lib.leNat [bs.getD k 0, bs.getD (k + 1) 0, bs.getD (k + 2) 0, bs.getD (k + 3) 0]
theorem le32_at {W : World} {D : Nat} {bs : List UInt8} (h : SrcO W D 0 bs) (hl : bs.length = 2048) (k c : Nat) (hk : k + 4 <= 2048) : Calls Tryz.prog 100 #[.agg #[], .slice (some ⟨D, k, none⟩) 4 c] W fun e w' => e = .returned (.int .u32 (le4 bs k)) /\ Below W.heap.size W w' :=
 Tryz.binary_LE_Uint32 D k 4 c _ _ _ _ W (by decide) (src_at h k (by omega)) (src_at h (k + 1) (by omega)) (src_at h (k + 2) (by omega)) (src_at h (k + 3) (by omega))
theorem be32_at {W : World} {D : Nat} {bs : List UInt8} (h : SrcO W D 0 bs) (hl : bs.length = 2048) (k c : Nat) (hk : k + 4 <= 2048) : Calls Tryz.prog 121 #[.agg #[], .slice (some ⟨D, k, none⟩) 4 c] W fun e w' => (∃ v : Nat, e = .returned (.int .u32 v)) /\ Below W.heap.size W w' :=
 (Tryz.binary_BE_Uint32 D k 4 c _ _ _ _ W (by decide) (src_at h k (by omega)) (src_at h (k + 1) (by omega)) (src_at h (k + 2) (by omega)) (src_at h (k + 3) (by omega))).mono fun e w' h => ⟨⟨_, h.1⟩, h.2⟩
theorem le16_at {W : World} {D : Nat} {bs : List UInt8} (h : SrcO W D 0 bs) (hl : bs.length = 2048) (k c : Nat) (hk : k + 2 <= 2048) : Calls Tryz.prog 101 #[.agg #[], .slice (some ⟨D, k, none⟩) 2 c] W fun e w' => (∃ v : Nat, e = .returned (.int .u16 v)) /\ Below W.heap.size W w' :=
 (Tryz.binary_LE_Uint16 D k 2 c _ _ W (by decide) (src_at h k (by omega)) (src_at h (k + 1) (by omega))).mono fun e w' h => ⟨⟨_, h.1⟩, h.2⟩
structure PvdAt (w : World) (V RD : Nat) (vol : List UInt8) (pt li : Nat) : Prop where
 vol : w.cell? ⟨V, 1, none⟩ = some (.string (ofL (vol ++ List.replicate (32 - vol.length) 32)))
 blk : w.cell? ⟨V, 5, none⟩ = some (.int .u16 2048)
 pts : w.cell? ⟨V, 6, none⟩ = some (.int .u32 pt)
 ptl : w.cell? ⟨V, 7, none⟩ = some (.int .u32 li)
 root : w.cell? ⟨V, 11, none⟩ = some (PB RD)
theorem le4_of {bs l : List UInt8} {k n : Nat} (h : Holds bs k l) (hl : 4 <= l.length) (h0 : l[0]? = some (u8 n)) (h1 : l[1]? = some (u8 (n / 256))) (h2 : l[2]? = some (u8 (n / 65536))) (h3 : l[3]? = some (u8 (n / 16777216))) (hn : n < 4294967296) : le4 bs k = n := by
 have g : ∀ j b, j < 4 -> l[j]? = some b -> bs.getD (k + j) 0 = b := by
  intro j b hj hb
  rw [List.getD_eq_getElem?_getD, h j (by omega), hb]; rfl
 unfold le4
 have g0 := g 0 _ (by decide) h0
 rw [Nat.add_zero] at g0
 rw [g0, g 1 _ (by decide) h1, g 2 _ (by decide) h2, g 3 _ (by decide) h3]
 exact leNat_le n hn
theorem vol_part {bs vol : List UInt8} (h : Holds bs 40 (vol ++ List.replicate (32 - vol.length) 32)) (hl : bs.length = 2048) (hv : vol.length <= 32) : (bs.drop 40).take 32 = vol ++ List.replicate (32 - vol.length) 32 := by
 have e : (vol ++ List.replicate (32 - vol.length) (32 : UInt8)).length = 32 := by rw [List.length_append, List.length_replicate]; omega
 apply List.ext_getElem?
 intro j
 rw [List.getElem?_take, List.getElem?_drop]
 by_cases hj : j < 32
 . rw [if_pos hj]; exact h j (by rw [e]; exact hj)
 . rw [if_neg hj, List.getElem?_eq_none (by rw [e]; omega)]
theorem build_step {P : Program} {ev : Operand -> Value} {dst : Option Tmp} {t ty : TypeId} {ps : Array (Nat × Operand)} {pos : String} {aft : Array Edge} {g : Option (Nat × Bool)} {parts : Array (Nat × Value)} {v : Value} {W : World} (hp : (ps.map fun (i, x) => (i, ev x)) = parts) (h : (Instr.build t parts).run P W = .ok v W) : (execOp ev { dst := dst, op := .build t ps, type := ty, pos := pos, after := aft, guard := g }).run P W = .ok (.value v) W := by
 subst hp
 simp only [execOp, Sem.run_bind, Sem.run_pure, h, Result.andThen_ok]
abbrev SPV (D N : Nat) (x7 a7 x8 a8 x9 a9 x10 a10 : Int) (s1 s2 s3 s4 s5 s6 s7 s8 s9 : ByteArray) (w11 W : World) : Prop := Below w11.heap.size w11 W /\ W.cell? ⟨N + 1, 0, none⟩ = some (.int .i64 x7) /\ W.cell? ⟨N + 1, 1, none⟩ = some (.int .i64 0) /\ W.cell? ⟨N + 1, 2, none⟩ = some (.int .i64 a7) /\ W.cell? ⟨N + 2, 0, none⟩ = some (.int .i64 x8) /\ W.cell? ⟨N + 2, 1, none⟩ = some (.int .i64 0) /\ W.cell? ⟨N + 2, 2, none⟩ = some (.int .i64 a8) /\ W.cell? ⟨N + 3, 0, none⟩ = some (.int .i64 x9) /\ W.cell? ⟨N + 3, 1, none⟩ = some (.int .i64 0) /\ W.cell? ⟨N + 3, 2, none⟩ = some (.int .i64 a9) /\ W.cell? ⟨N + 4, 0, none⟩ = some (.int .i64 x10) /\ W.cell? ⟨N + 4, 1, none⟩ = some (.int .i64 0) /\ W.cell? ⟨N + 4, 2, none⟩ = some (.int .i64 a10) /\ (convert 27 9 (.slice (some ⟨D, 8, none⟩) 32 2040)).run Tryz.prog W = .ok (.string s1) W /\ (convert 27 9 (.slice (some ⟨D, 40, none⟩) 32 2008)).run Tryz.prog W = .ok (.string s2) W /\ (convert 27 9 (.slice (some ⟨D, 190, none⟩) 128 1858)).run Tryz.prog W = .ok (.string s3) W /\ (convert 27 9 (.slice (some ⟨D, 318, none⟩) 128 1730)).run Tryz.prog W = .ok (.string s4) W /\ (convert 27 9 (.slice (some ⟨D, 446, none⟩) 128 1602)).run Tryz.prog W = .ok (.string s5) W /\ (convert 27 9 (.slice (some ⟨D, 574, none⟩) 128 1474)).run Tryz.prog W = .ok (.string s6) W /\ (convert 27 9 (.slice (some ⟨D, 702, none⟩) 37 1346)).run Tryz.prog W = .ok (.string s7) W /\ (convert 27 9 (.slice (some ⟨D, 739, none⟩) 37 1309)).run Tryz.prog W = .ok (.string s8) W /\ (convert 27 9 (.slice (some ⟨D, 776, none⟩) 37 1272)).run Tryz.prog W = .ok (.string s9) W
theorem bel_next {D N : Nat} {x7 a7 x8 a8 x9 a9 x10 a10 : Int} {s1 s2 s3 s4 s5 s6 s7 s8 s9 : ByteArray} {w11 W W' : World} (hb : Below W.heap.size W W') (h : SPV D N x7 a7 x8 a8 x9 a9 x10 a10 s1 s2 s3 s4 s5 s6 s7 s8 s9 w11 W) : Below w11.heap.size w11 W' := h.1.trans (hb.mono h.1.size)
theorem bel_new {D N : Nat} {x7 a7 x8 a8 x9 a9 x10 a10 : Int} {s1 s2 s3 s4 s5 s6 s7 s8 s9 : ByteArray} {w11 W : World} (o : Obj) (h : SPV D N x7 a7 x8 a8 x9 a9 x10 a10 s1 s2 s3 s4 s5 s6 s7 s8 s9 w11 W) : Below w11.heap.size w11 (W.alloc o) := h.1.alloc h.1.size _
theorem pvd_any (D pt li : Nat) (bs vol : List UInt8) (r : Rec) (w : World) (hs : SrcO w D 0 bs) (hP : PvdHas bs vol r.bytes pt li) (hok : r.Ok) (hid : r.id.length = 1) (hpt : pt < 4294967296) (hli : li < 4294967296) (hvol : vol.length <= 32) :
 Calls Tryz.prog 96 #[.slice (some ⟨D, 0, none⟩) 2048 2048] w fun e w' => ∃ V RD, e = .returned (.tuple #[PB V, .nilIface]) /\ PvdAt w' V RD vol pt li /\ EntAt w' RD r (.pointer none) /\ w.heap.size <= RD /\ RD < V /\ Below w.heap.size w w' := by
 have KS : ∀ W, Below w.heap.size w W -> SrcO W D 0 bs := fun W h => hs.later h
 have HK := Lib.hid KS; have HPV := Lib.hid hP
 have hb := hP.blk
 have b128 := (hs.part hb).2 0 _ rfl
 have b129 := (hs.part hb).2 1 _ rfl
 have hDl := hs.1
 clear hs hP KS hb
 go_enter Tryz.func96, Tryz.ntmps96
 go_upto_region 1 with (fail)
 go_region_held3 (fun _ => True) (trivial) (first
  | (go_at_call 101; go_must (refine (Tryz.binary_LE_Uint16 D 128 2 _ _ _ _ (by decide) (by exact ((HK.out _ (Below.refl _ _).drew).part HPV.out.blk).2 0 _ rfl) (by exact ((HK.out _ (Below.refl _ _).drew).part HPV.out.blk).2 1 _ rfl)).mono ?_); go_must (rintro e w2 ⟨rfl, hb2⟩); rw [show ((Lib.leNat [u8 2048, u8 (2048 / 256)] : Nat) : Int) = 2048 from rfl]))
 have hbw2 : Below w.heap.size w w2 := (Below.refl _ _).drew.trans hb2
 clear b128 b129 hb2
 go_upto_region 5 with (fail)
 refine gen_world (F := fun W => P5 w W D w2.heap.size bs) (p5_of hbw2 HK.out) (fun W5 h5 => ?_)
 obtain ⟨N, hN⟩ : ∃ N, w2.heap.size = N := ⟨_, rfl⟩
 rw [hN] at h5 ⊢
 clear hN hbw2
 have H5 := Lib.hid h5
 clear h5
 have eqf : (Lib.bytesOf (nums tim17) == Lib.bytesOf (nums nul17)) = false := by decide
 have eqt : (Lib.bytesOf (nums nul17) == Lib.bytesOf (nums nul17)) = true := by decide
 go_upto_region 10 with (first
  | (go_at_call 118; refine (Tryz.bytes_Equal_all (some ⟨D, 813, none⟩) (some ⟨N, 0, none⟩) 17 _ 17 _ (nums tim17) (nums nul17) _ rfl rfl (by have := srcO_bytes (H5.out.src.part HPV.out.cre); rw [Nat.zero_add] at this; exact this) (srcO_bytes H5.out.nul)).mono ?_; rintro e w6 ⟨rfl, rfl⟩; rw [eqf]))
 have H6 := Lib.hid (H5.out.pd hDl)
 clear H5
 have hsl : ∀ k, k <= 2031 -> 17 <= 2048 - k := by omega
 go_upto_region 13 with (first
  | (go_at_call 119; refine (decBytes_any D 813 _ _ (by decide) (by have := H6.out.src.part HPV.out.cre; rw [Nat.zero_add] at this; exact this)).mono ?_; rintro e w7 ⟨⟨x, a, rfl⟩, hb7⟩; have H7 := Lib.hid (H6.out.later hb7); obtain ⟨x7, a7, h7⟩ := H7.out.t7; obtain ⟨q0, q1, q2⟩ := tcells3 h7; obtain ⟨r0, r1, r2⟩ := tfrozen3 h7))
 refine gen_world (F := fun W => PD w W D N bs) (H7.out.set 1 (by decide) x a) (fun W8 h8 => ?_)
 have H8 := Lib.hid h8
 clear h8 q0 q1 q2 r0 r1 r2 h7 hb7 H6 H7
 go_upto_region 14 with (first
  | (go_at_call 118; refine (Tryz.bytes_Equal_all (some ⟨D, 830, none⟩) (some ⟨N, 0, none⟩) 17 _ 17 _ (nums tim17) (nums nul17) _ rfl rfl (by have := srcO_bytes (H8.out.src.part HPV.out.mod); rw [Nat.zero_add] at this; exact this) (srcO_bytes H8.out.nul)).mono ?_; rintro e w6 ⟨rfl, rfl⟩; rw [eqf]))
 go_upto_region 17 with (first
  | (go_at_call 119; refine (decBytes_any D 830 _ _ (by decide) (by have := H8.out.src.part HPV.out.mod; rw [Nat.zero_add] at this; exact this)).mono ?_; rintro e w9 ⟨⟨x2, a2, rfl⟩, hb9⟩; have H9 := Lib.hid (H8.out.later hb9); obtain ⟨x8, a8, h8⟩ := H9.out.t8; obtain ⟨q0, q1, q2⟩ := tcells3 h8; obtain ⟨r0, r1, r2⟩ := tfrozen3 h8))
 refine gen_world (F := fun W => PD w W D N bs) (H9.out.set 2 (by decide) x2 a2) (fun W10 h10 => ?_)
 have H10 := Lib.hid h10
 clear h10 q0 q1 q2 r0 r1 r2 h8 hb9 H8 H9
 have hrb : r.bytes.length = 34 := by rw [r.bytes_len hok, hid]; rfl
 have HRB := Lib.hid hrb
 clear hrb
 go_upto_region 21 with (first
  | (go_at_call 118; refine (Tryz.bytes_Equal_all (some ⟨D, 847, none⟩) (some ⟨N, 0, none⟩) 17 _ 17 _ (nums nul17) (nums nul17) _ rfl rfl (by have := srcO_bytes (H10.out.src.part HPV.out.exp); rw [Nat.zero_add] at this; exact this) (srcO_bytes H10.out.nul)).mono ?_; rintro e w6 ⟨rfl, rfl⟩; rw [eqt]))
 go_upto_region 25 with (first
  | (go_at_call 118; refine (Tryz.bytes_Equal_all (some ⟨D, 864, none⟩) (some ⟨N, 0, none⟩) 17 _ 17 _ (nums nul17) (nums nul17) _ rfl rfl (by have := srcO_bytes (H10.out.src.part HPV.out.eff); rw [Nat.zero_add] at this; exact this) (srcO_bytes H10.out.nul)).mono ?_; rintro e w6 ⟨rfl, rfl⟩; rw [eqt]))
 go_upto_region 28 with (first
  | (go_at_call 120; refine (entry120 D 156 34 1892 r _ _ H10.out.src.1 (by have := (H10.out.src.part HPV.out.root).2; rw [Nat.zero_add] at this; exact this) HRB.out (by decide) hok).mono ?_; rintro e w11 ⟨RD, rfl, hRD, hE, hb11⟩))
 have H11 := Lib.hid (H10.out.later hb11)
 obtain ⟨x7, a7, h7⟩ := H11.out.t7
 obtain ⟨x8, a8, h8⟩ := H11.out.t8
 obtain ⟨x9, a9, h9⟩ := H11.out.t9
 obtain ⟨x10, a10, h10⟩ := H11.out.t10
 obtain ⟨s1, hs1⟩ : ∃ s, ofL ((bs.drop 8).take 32) = s := ⟨_, rfl⟩
 obtain ⟨s2, hs2⟩ : ∃ s, ofL ((bs.drop 40).take 32) = s := ⟨_, rfl⟩
 obtain ⟨s3, hs3⟩ : ∃ s, ofL ((bs.drop 190).take 128) = s := ⟨_, rfl⟩
 obtain ⟨s4, hs4⟩ : ∃ s, ofL ((bs.drop 318).take 128) = s := ⟨_, rfl⟩
 obtain ⟨s5, hs5⟩ : ∃ s, ofL ((bs.drop 446).take 128) = s := ⟨_, rfl⟩
 obtain ⟨s6, hs6⟩ : ∃ s, ofL ((bs.drop 574).take 128) = s := ⟨_, rfl⟩
 obtain ⟨s7, hs7⟩ : ∃ s, ofL ((bs.drop 702).take 37) = s := ⟨_, rfl⟩
 obtain ⟨s8, hs8⟩ : ∃ s, ofL ((bs.drop 739).take 37) = s := ⟨_, rfl⟩
 obtain ⟨s9, hs9⟩ : ∃ s, ofL ((bs.drop 776).take 37) = s := ⟨_, rfl⟩
 have hSP : ∀ W, Below w11.heap.size w11 W -> SPV D N x7 a7 x8 a8 x9 a9 x10 a10 s1 s2 s3 s4 s5 s6 s7 s8 s9 w11 W := by
  intro W hW
  have hS := (H11.out.later hW).src
  have hlen := HPV.out.len
  obtain ⟨p70, p71, p72⟩ := tcells3 (blk_later h7 hW)
  obtain ⟨p80, p81, p82⟩ := tcells3 (blk_later h8 hW)
  obtain ⟨p90, p91, p92⟩ := tcells3 (blk_later h9 hW)
  obtain ⟨p100, p101, p102⟩ := tcells3 (blk_later h10 hW)
  refine ⟨hW, p70, p71, p72, p80, p81, p82, p90, p91, p92, p100, p101, p102, ?_, ?_, ?_, ?_, ?_, ?_, ?_, ?_, ?_⟩
  . rw [<- hs1]; exact conv_part hS 8 32 _ (by omega)
  . rw [<- hs2]; exact conv_part hS 40 32 _ (by omega)
  . rw [<- hs3]; exact conv_part hS 190 128 _ (by omega)
  . rw [<- hs4]; exact conv_part hS 318 128 _ (by omega)
  . rw [<- hs5]; exact conv_part hS 446 128 _ (by omega)
  . rw [<- hs6]; exact conv_part hS 574 128 _ (by omega)
  . rw [<- hs7]; exact conv_part hS 702 37 _ (by omega)
  . rw [<- hs8]; exact conv_part hS 739 37 _ (by omega)
  . rw [<- hs9]; exact conv_part hS 776 37 _ (by omega)
 have hSC : ∀ W, Below w11.heap.size w11 W -> SrcO W D 0 bs := fun W hW => (H11.out.later hW).src
 have HSP := Lib.hid hSP; have HSC := Lib.hid hSC
 have HE := Lib.hid hE; have HB11 := Lib.hid hb11; have HRD := Lib.hid hRD
 have HS2 := Lib.hid hs2
 clear hSP hSC hE hb11 hRD h7 h8 h9 h10 hs1 hs2 hs3 hs4 hs5 hs6 hs7 hs8 hs9
 have HLEN := Lib.hid HPV.out.len
 dsimp only [List.append]
 refine wp_region_held_drew (S := SPV D N x7 a7 x8 a8 x9 a9 x10 a10 s1 s2 s3 s4 s5 s6 s7 s8 s9 w11) (by kernel_rfl) (HSP.out _ (Below.refl _ _).drew) (fun hHeld => ?_)
 refine wpAnyH_take (i := 0) (v := ?_) (rfl : _ = some (Oper.mk _ _ _ _ _ _)) (by kernel_rfl) (by kernel_rfl) (by kernel_rfl) (fun _ _ _ h => h) (Or.inl ⟨by rfl, ?_⟩) (by assumption) ?_
 rotate_left 1
 . intro w hSw; (try dsimp only at hSw); go_simp; try with_reducible rfl
 try simp only [Act.put, List.setIfInBounds_toArray, List.set_cons_zero, List.set_cons_succ]
 refine wpAnyH_take (i := 1) (v := ?_) (rfl : _ = some (Oper.mk _ _ _ _ _ _)) (by kernel_rfl) (by kernel_rfl) (by kernel_rfl) (fun _ _ _ h => h) (Or.inl ⟨by rfl, ?_⟩) (by assumption) ?_
 rotate_left 1
 . intro w hSw; (try dsimp only at hSw); go_simp; try with_reducible rfl
 try simp only [Act.put, List.setIfInBounds_toArray, List.set_cons_zero, List.set_cons_succ]
 refine wpAnyH_take (i := 2) (v := ?_) (rfl : _ = some (Oper.mk _ _ _ _ _ _)) (by kernel_rfl) (by kernel_rfl) (by kernel_rfl) (fun _ _ _ h => h) (Or.inl ⟨by rfl, ?_⟩) (by assumption) ?_
 rotate_left 1
 . intro w hSw; (try dsimp only at hSw); go_simp; try with_reducible rfl
 try simp only [Act.put, List.setIfInBounds_toArray, List.set_cons_zero, List.set_cons_succ]
 refine wpAnyH_take (i := 3) (v := ?_) (rfl : _ = some (Oper.mk _ _ _ _ _ _)) (by kernel_rfl) (by kernel_rfl) (by kernel_rfl) (fun _ _ _ h => h) (Or.inl ⟨by rfl, ?_⟩) (by assumption) ?_
 rotate_left 1
 . intro w hSw; (try dsimp only at hSw); go_simp; try with_reducible rfl
 try simp only [Act.put, List.setIfInBounds_toArray, List.set_cons_zero, List.set_cons_succ]
 refine wpAnyH_take (i := 4) (v := ?_) (rfl : _ = some (Oper.mk _ _ _ _ _ _)) (by kernel_rfl) (by kernel_rfl) (by kernel_rfl) (fun _ _ _ h => h) (Or.inl ⟨by rfl, ?_⟩) (by assumption) ?_
 rotate_left 1
 . intro w hSw; (try dsimp only at hSw); go_simp; try with_reducible rfl
 try simp only [Act.put, List.setIfInBounds_toArray, List.set_cons_zero, List.set_cons_succ]
 refine wpAnyH_take (i := 5) (v := ?_) (rfl : _ = some (Oper.mk _ _ _ _ _ _)) (by kernel_rfl) (by kernel_rfl) (by kernel_rfl) (fun _ _ _ h => h) (Or.inl ⟨by rfl, ?_⟩) (by assumption) ?_
 rotate_left 1
 . intro w hSw; (try dsimp only at hSw); go_simp; try with_reducible rfl
 try simp only [Act.put, List.setIfInBounds_toArray, List.set_cons_zero, List.set_cons_succ]
 refine wpAnyH_take (i := 6) (v := ?_) (rfl : _ = some (Oper.mk _ _ _ _ _ _)) (by kernel_rfl) (by kernel_rfl) (by kernel_rfl) (fun _ _ _ h => h) (Or.inl ⟨by rfl, ?_⟩) (by assumption) ?_
 rotate_left 1
 . intro w hSw; (try dsimp only at hSw); go_simp; try with_reducible rfl
 try simp only [Act.put, List.setIfInBounds_toArray, List.set_cons_zero, List.set_cons_succ]
 refine wpAnyH_take (i := 7) (v := ?_) (rfl : _ = some (Oper.mk _ _ _ _ _ _)) (by kernel_rfl) (by kernel_rfl) (by kernel_rfl) (fun _ _ _ h => h) (Or.inl ⟨by rfl, ?_⟩) (by assumption) ?_
 rotate_left 1
 . intro w hSw; (try dsimp only at hSw); go_simp; try with_reducible rfl
 try simp only [Act.put, List.setIfInBounds_toArray, List.set_cons_zero, List.set_cons_succ]
 refine wpAnyH_take (i := 8) (v := ?_) (rfl : _ = some (Oper.mk _ _ _ _ _ _)) (by kernel_rfl) (by kernel_rfl) (by kernel_rfl) (fun _ _ _ h => h) (Or.inl ⟨by rfl, ?_⟩) (by assumption) ?_
 rotate_left 1
 . intro w hSw; (try dsimp only at hSw); go_simp; try with_reducible rfl
 try simp only [Act.put, List.setIfInBounds_toArray, List.set_cons_zero, List.set_cons_succ]
 refine wpAnyH_take (i := 10) (v := ?_) (rfl : _ = some (Oper.mk _ _ _ _ _ _)) (by kernel_rfl) (by kernel_rfl) (by kernel_rfl) (fun _ _ _ h => h) (Or.inl ⟨by rfl, ?_⟩) (by assumption) ?_
 rotate_left 1
 . intro w hSw; (try dsimp only at hSw); go_simp; try with_reducible rfl
 try simp only [Act.put, List.setIfInBounds_toArray, List.set_cons_zero, List.set_cons_succ]
 refine wpAnyH_take (i := 11) (v := ?_) (rfl : _ = some (Oper.mk _ _ _ _ _ _)) (by kernel_rfl) (by kernel_rfl) (by kernel_rfl) (fun _ _ _ h => h) (Or.inl ⟨by rfl, ?_⟩) (by assumption) ?_
 rotate_left 1
 . intro w hSw; (try dsimp only at hSw); go_simp; try with_reducible rfl
 try simp only [Act.put, List.setIfInBounds_toArray, List.set_cons_zero, List.set_cons_succ]
 refine wpAnyH_take (i := 12) (v := ?_) (rfl : _ = some (Oper.mk _ _ _ _ _ _)) (by kernel_rfl) (by kernel_rfl) (by kernel_rfl) (fun _ _ _ h => h) (Or.inl ⟨by rfl, ?_⟩) (by assumption) ?_
 rotate_left 1
 . intro w hSw; (try dsimp only at hSw); go_simp; try with_reducible rfl
 try simp only [Act.put, List.setIfInBounds_toArray, List.set_cons_zero, List.set_cons_succ]
 refine wpAnyH_take (i := 14) (v := ?_) (rfl : _ = some (Oper.mk _ _ _ _ _ _)) (by kernel_rfl) (by kernel_rfl) (by kernel_rfl) (fun _ _ _ h => h) (Or.inl ⟨by rfl, ?_⟩) (by assumption) ?_
 rotate_left 1
 . intro w hSw; (try dsimp only at hSw); go_simp; try with_reducible rfl
 try simp only [Act.put, List.setIfInBounds_toArray, List.set_cons_zero, List.set_cons_succ]
 refine wpAnyH_take (i := 15) (v := ?_) (rfl : _ = some (Oper.mk _ _ _ _ _ _)) (by kernel_rfl) (by kernel_rfl) (by kernel_rfl) (fun _ _ _ h => h) (Or.inl ⟨by rfl, ?_⟩) (by assumption) ?_
 rotate_left 1
 . intro w hSw; (try dsimp only at hSw); go_simp; try with_reducible rfl
 try simp only [Act.put, List.setIfInBounds_toArray, List.set_cons_zero, List.set_cons_succ]
 refine wpAnyH_take (i := 16) (v := ?_) (rfl : _ = some (Oper.mk _ _ _ _ _ _)) (by kernel_rfl) (by kernel_rfl) (by kernel_rfl) (fun _ _ _ h => h) (Or.inl ⟨by rfl, ?_⟩) (by assumption) ?_
 rotate_left 1
 . intro w hSw; (try dsimp only at hSw); go_simp; try with_reducible rfl
 try simp only [Act.put, List.setIfInBounds_toArray, List.set_cons_zero, List.set_cons_succ]
 refine wpAnyH_take (i := 18) (v := ?_) (rfl : _ = some (Oper.mk _ _ _ _ _ _)) (by kernel_rfl) (by kernel_rfl) (by kernel_rfl) (fun _ _ _ h => h) (Or.inl ⟨by rfl, ?_⟩) (by assumption) ?_
 rotate_left 1
 . intro w hSw; (try dsimp only at hSw); go_simp; try with_reducible rfl
 try simp only [Act.put, List.setIfInBounds_toArray, List.set_cons_zero, List.set_cons_succ]
 refine wpAnyH_take (i := 19) (v := ?_) (rfl : _ = some (Oper.mk _ _ _ _ _ _)) (by kernel_rfl) (by kernel_rfl) (by kernel_rfl) (fun _ _ _ h => h) (Or.inl ⟨by rfl, ?_⟩) (by assumption) ?_
 rotate_left 1
 . intro w hSw; (try dsimp only at hSw); go_simp; try with_reducible rfl
 try simp only [Act.put, List.setIfInBounds_toArray, List.set_cons_zero, List.set_cons_succ]
 refine wpAnyH_take (i := 20) (v := ?_) (rfl : _ = some (Oper.mk _ _ _ _ _ _)) (by kernel_rfl) (by kernel_rfl) (by kernel_rfl) (fun _ _ _ h => h) (Or.inl ⟨by rfl, ?_⟩) (by assumption) ?_
 rotate_left 1
 . intro w hSw; (try dsimp only at hSw); go_simp; try with_reducible rfl
 try simp only [Act.put, List.setIfInBounds_toArray, List.set_cons_zero, List.set_cons_succ]
 refine wpAnyH_take (i := 21) (v := ?_) (rfl : _ = some (Oper.mk _ _ _ _ _ _)) (by kernel_rfl) (by kernel_rfl) (by kernel_rfl) (fun _ _ _ h => h) (Or.inl ⟨by rfl, ?_⟩) (by assumption) ?_
 rotate_left 1
 . intro w hSw; (try dsimp only at hSw); go_simp; try with_reducible rfl
 try simp only [Act.put, List.setIfInBounds_toArray, List.set_cons_zero, List.set_cons_succ]
 refine wpAnyH_take (i := 23) (v := ?_) (rfl : _ = some (Oper.mk _ _ _ _ _ _)) (by kernel_rfl) (by kernel_rfl) (by kernel_rfl) (fun _ _ _ h => h) (Or.inl ⟨by rfl, ?_⟩) (by assumption) ?_
 rotate_left 1
 . intro w hSw; (try dsimp only at hSw); go_simp; try with_reducible rfl
 try simp only [Act.put, List.setIfInBounds_toArray, List.set_cons_zero, List.set_cons_succ]
 refine wpAnyH_take (i := 24) (v := ?_) (rfl : _ = some (Oper.mk _ _ _ _ _ _)) (by kernel_rfl) (by kernel_rfl) (by kernel_rfl) (fun _ _ _ h => h) (Or.inl ⟨by rfl, ?_⟩) (by assumption) ?_
 rotate_left 1
 . intro w hSw; (try dsimp only at hSw); go_simp; try with_reducible rfl
 try simp only [Act.put, List.setIfInBounds_toArray, List.set_cons_zero, List.set_cons_succ]
 refine wpAnyH_take (i := 25) (v := ?_) (rfl : _ = some (Oper.mk _ _ _ _ _ _)) (by kernel_rfl) (by kernel_rfl) (by kernel_rfl) (fun _ _ _ h => h) (Or.inl ⟨by rfl, ?_⟩) (by assumption) ?_
 rotate_left 1
 . intro w hSw; (try dsimp only at hSw); go_simp; try with_reducible rfl
 try simp only [Act.put, List.setIfInBounds_toArray, List.set_cons_zero, List.set_cons_succ]
 refine wpAnyH_take (i := 27) (v := ?_) (rfl : _ = some (Oper.mk _ _ _ _ _ _)) (by kernel_rfl) (by kernel_rfl) (by kernel_rfl) (fun _ _ _ h => h) (Or.inl ⟨by rfl, ?_⟩) (by assumption) ?_
 rotate_left 1
 . intro w hSw; (try dsimp only at hSw); go_simp; try with_reducible rfl
 try simp only [Act.put, List.setIfInBounds_toArray, List.set_cons_zero, List.set_cons_succ]
 refine wpAnyH_take (i := 28) (v := ?_) (rfl : _ = some (Oper.mk _ _ _ _ _ _)) (by kernel_rfl) (by kernel_rfl) (by kernel_rfl) (fun _ _ _ h => h) (Or.inl ⟨by rfl, ?_⟩) (by assumption) ?_
 rotate_left 1
 . intro w hSw; (try dsimp only at hSw); go_simp; try with_reducible rfl
 try simp only [Act.put, List.setIfInBounds_toArray, List.set_cons_zero, List.set_cons_succ]
 refine wpAnyH_take (i := 29) (v := ?_) (rfl : _ = some (Oper.mk _ _ _ _ _ _)) (by kernel_rfl) (by kernel_rfl) (by kernel_rfl) (fun _ _ _ h => h) (Or.inl ⟨by rfl, ?_⟩) (by assumption) ?_
 rotate_left 1
 . intro w hSw; (try dsimp only at hSw); go_simp; try with_reducible rfl
 try simp only [Act.put, List.setIfInBounds_toArray, List.set_cons_zero, List.set_cons_succ]
 refine wpAnyH_take (i := 31) (v := ?_) (rfl : _ = some (Oper.mk _ _ _ _ _ _)) (by kernel_rfl) (by kernel_rfl) (by kernel_rfl) (fun _ _ _ h => h) (Or.inl ⟨by rfl, ?_⟩) (by assumption) ?_
 rotate_left 1
 . intro w hSw; (try dsimp only at hSw); go_simp; try with_reducible rfl
 try simp only [Act.put, List.setIfInBounds_toArray, List.set_cons_zero, List.set_cons_succ]
 refine wpAnyH_take (i := 32) (v := ?_) (rfl : _ = some (Oper.mk _ _ _ _ _ _)) (by kernel_rfl) (by kernel_rfl) (by kernel_rfl) (fun _ _ _ h => h) (Or.inl ⟨by rfl, ?_⟩) (by assumption) ?_
 rotate_left 1
 . intro w hSw; (try dsimp only at hSw); go_simp; try with_reducible rfl
 try simp only [Act.put, List.setIfInBounds_toArray, List.set_cons_zero, List.set_cons_succ]
 refine wpAnyH_take (i := 33) (v := ?_) (rfl : _ = some (Oper.mk _ _ _ _ _ _)) (by kernel_rfl) (by kernel_rfl) (by kernel_rfl) (fun _ _ _ h => h) (Or.inl ⟨by rfl, ?_⟩) (by assumption) ?_
 rotate_left 1
 . intro w hSw; (try dsimp only at hSw); go_simp; try with_reducible rfl
 try simp only [Act.put, List.setIfInBounds_toArray, List.set_cons_zero, List.set_cons_succ]
 refine wpAnyH_take (i := 35) (v := ?_) (rfl : _ = some (Oper.mk _ _ _ _ _ _)) (by kernel_rfl) (by kernel_rfl) (by kernel_rfl) (fun _ _ _ h => h) (Or.inl ⟨by rfl, ?_⟩) (by assumption) ?_
 rotate_left 1
 . intro w hSw; (try dsimp only at hSw); go_simp; try with_reducible rfl
 try simp only [Act.put, List.setIfInBounds_toArray, List.set_cons_zero, List.set_cons_succ]
 refine wpAnyH_take (i := 36) (v := ?_) (rfl : _ = some (Oper.mk _ _ _ _ _ _)) (by kernel_rfl) (by kernel_rfl) (by kernel_rfl) (fun _ _ _ h => h) (Or.inl ⟨by rfl, ?_⟩) (by assumption) ?_
 rotate_left 1
 . intro w hSw; (try dsimp only at hSw); go_simp; try with_reducible rfl
 try simp only [Act.put, List.setIfInBounds_toArray, List.set_cons_zero, List.set_cons_succ]
 refine wpAnyH_take (i := 37) (v := ?_) (rfl : _ = some (Oper.mk _ _ _ _ _ _)) (by kernel_rfl) (by kernel_rfl) (by kernel_rfl) (fun _ _ _ h => h) (Or.inl ⟨by rfl, ?_⟩) (by assumption) ?_
 rotate_left 1
 . intro w hSw; (try dsimp only at hSw); go_simp; try with_reducible rfl
 try simp only [Act.put, List.setIfInBounds_toArray, List.set_cons_zero, List.set_cons_succ]
 refine wpAnyH_take (i := 39) (v := ?_) (rfl : _ = some (Oper.mk _ _ _ _ _ _)) (by kernel_rfl) (by kernel_rfl) (by kernel_rfl) (fun _ _ _ h => h) (Or.inl ⟨by rfl, ?_⟩) (by assumption) ?_
 rotate_left 1
 . intro w hSw; (try dsimp only at hSw); go_simp; try with_reducible rfl
 try simp only [Act.put, List.setIfInBounds_toArray, List.set_cons_zero, List.set_cons_succ]
 refine wpAnyH_take (i := 40) (v := ?_) (rfl : _ = some (Oper.mk _ _ _ _ _ _)) (by kernel_rfl) (by kernel_rfl) (by kernel_rfl) (fun _ _ _ h => h) (Or.inl ⟨by rfl, ?_⟩) (by assumption) ?_
 rotate_left 1
 . intro w hSw; (try dsimp only at hSw); go_simp; try with_reducible rfl
 try simp only [Act.put, List.setIfInBounds_toArray, List.set_cons_zero, List.set_cons_succ]
 refine wpAnyH_take (i := 41) (v := ?_) (rfl : _ = some (Oper.mk _ _ _ _ _ _)) (by kernel_rfl) (by kernel_rfl) (by kernel_rfl) (fun _ _ _ h => h) (Or.inl ⟨by rfl, ?_⟩) (by assumption) ?_
 rotate_left 1
 . intro w hSw; (try dsimp only at hSw); go_simp; try with_reducible rfl
 try simp only [Act.put, List.setIfInBounds_toArray, List.set_cons_zero, List.set_cons_succ]
 refine wpAnyH_take (i := 42) (v := ?_) (rfl : _ = some (Oper.mk _ _ _ _ _ _)) (by kernel_rfl) (by kernel_rfl) (by kernel_rfl) (fun _ _ _ h => h) (Or.inl ⟨by rfl, ?_⟩) (by assumption) ?_
 rotate_left 1
 . intro w hSw; (try dsimp only at hSw); go_simp; try with_reducible rfl
 try simp only [Act.put, List.setIfInBounds_toArray, List.set_cons_zero, List.set_cons_succ]
 refine wpAnyH_take (i := 43) (v := ?_) (rfl : _ = some (Oper.mk _ _ _ _ _ _)) (by kernel_rfl) (by kernel_rfl) (by kernel_rfl) (fun _ _ _ h => h) (Or.inl ⟨by rfl, ?_⟩) (by assumption) ?_
 rotate_left 1
 . intro w hSw; (try dsimp only at hSw); go_simp; try with_reducible rfl
 try simp only [Act.put, List.setIfInBounds_toArray, List.set_cons_zero, List.set_cons_succ]
 refine wpAnyH_take (i := 44) (v := ?_) (rfl : _ = some (Oper.mk _ _ _ _ _ _)) (by kernel_rfl) (by kernel_rfl) (by kernel_rfl) (fun _ _ _ h => h) (Or.inl ⟨by rfl, ?_⟩) (by assumption) ?_
 rotate_left 1
 . intro w hSw; (try dsimp only at hSw); go_simp; try with_reducible rfl
 try simp only [Act.put, List.setIfInBounds_toArray, List.set_cons_zero, List.set_cons_succ]
 refine wpAnyH_take (i := 45) (v := ?_) (rfl : _ = some (Oper.mk _ _ _ _ _ _)) (by kernel_rfl) (by kernel_rfl) (by kernel_rfl) (fun _ _ _ h => h) (Or.inl ⟨by rfl, ?_⟩) (by assumption) ?_
 rotate_left 1
 . intro w hSw; (try dsimp only at hSw); go_simp; try with_reducible rfl
 try simp only [Act.put, List.setIfInBounds_toArray, List.set_cons_zero, List.set_cons_succ]
 refine wpAnyH_take (i := 46) (v := ?_) (rfl : _ = some (Oper.mk _ _ _ _ _ _)) (by kernel_rfl) (by kernel_rfl) (by kernel_rfl) (fun _ _ _ h => h) (Or.inl ⟨by rfl, ?_⟩) (by assumption) ?_
 rotate_left 1
 . intro w hSw; (try dsimp only at hSw); go_simp; try with_reducible rfl
 try simp only [Act.put, List.setIfInBounds_toArray, List.set_cons_zero, List.set_cons_succ]
 refine wpAnyH_take (i := 47) (v := ?_) (rfl : _ = some (Oper.mk _ _ _ _ _ _)) (by kernel_rfl) (by kernel_rfl) (by kernel_rfl) (fun _ _ _ h => h) (Or.inl ⟨by rfl, ?_⟩) (by assumption) ?_
 rotate_left 1
 . intro w hSw; (try dsimp only at hSw); go_simp; try with_reducible rfl
 try simp only [Act.put, List.setIfInBounds_toArray, List.set_cons_zero, List.set_cons_succ]
 refine wpAnyH_take (i := 48) (v := ?_) (rfl : _ = some (Oper.mk _ _ _ _ _ _)) (by kernel_rfl) (by kernel_rfl) (by kernel_rfl) (fun _ _ _ h => h) (Or.inl ⟨by rfl, ?_⟩) (by assumption) ?_
 rotate_left 1
 . intro w hSw; (try dsimp only at hSw); go_simp; try with_reducible rfl
 try simp only [Act.put, List.setIfInBounds_toArray, List.set_cons_zero, List.set_cons_succ]
 refine wpAnyH_take (i := 49) (v := ?_) (rfl : _ = some (Oper.mk _ _ _ _ _ _)) (by kernel_rfl) (by kernel_rfl) (by kernel_rfl) (fun _ _ _ h => h) (Or.inl ⟨by rfl, ?_⟩) (by assumption) ?_
 rotate_left 1
 . intro w hSw; (try dsimp only at hSw); go_simp; try with_reducible rfl
 try simp only [Act.put, List.setIfInBounds_toArray, List.set_cons_zero, List.set_cons_succ]
 refine wpAnyH_take (i := 50) (v := ?_) (rfl : _ = some (Oper.mk _ _ _ _ _ _)) (by kernel_rfl) (by kernel_rfl) (by kernel_rfl) (fun _ _ _ h => h) (Or.inl ⟨by rfl, ?_⟩) (by assumption) ?_
 rotate_left 1
 . intro w hSw; (try dsimp only at hSw); go_simp; try with_reducible rfl
 try simp only [Act.put, List.setIfInBounds_toArray, List.set_cons_zero, List.set_cons_succ]
 refine wpAnyH_take (i := 51) (v := ?_) (rfl : _ = some (Oper.mk _ _ _ _ _ _)) (by kernel_rfl) (by kernel_rfl) (by kernel_rfl) (fun _ _ _ h => h) (Or.inl ⟨by rfl, ?_⟩) (by assumption) ?_
 rotate_left 1
 . intro w hSw; (try dsimp only at hSw); go_simp; try with_reducible rfl
 try simp only [Act.put, List.setIfInBounds_toArray, List.set_cons_zero, List.set_cons_succ]
 refine wpAnyH_take (i := 52) (v := ?_) (rfl : _ = some (Oper.mk _ _ _ _ _ _)) (by kernel_rfl) (by kernel_rfl) (by kernel_rfl) (fun _ _ _ h => h) (Or.inl ⟨by rfl, ?_⟩) (by assumption) ?_
 rotate_left 1
 . intro w hSw; (try dsimp only at hSw); go_simp; try with_reducible rfl
 try simp only [Act.put, List.setIfInBounds_toArray, List.set_cons_zero, List.set_cons_succ]
 refine wpAnyH_take (i := 53) (v := ?_) (rfl : _ = some (Oper.mk _ _ _ _ _ _)) (by kernel_rfl) (by kernel_rfl) (by kernel_rfl) (fun _ _ _ h => h) (Or.inl ⟨by rfl, ?_⟩) (by assumption) ?_
 rotate_left 1
 . intro w hSw; (try dsimp only at hSw); go_simp; try with_reducible rfl
 try simp only [Act.put, List.setIfInBounds_toArray, List.set_cons_zero, List.set_cons_succ]
 refine wpAnyH_take (i := 54) (v := ?_) (rfl : _ = some (Oper.mk _ _ _ _ _ _)) (by kernel_rfl) (by kernel_rfl) (by kernel_rfl) (fun _ _ _ h => h) (Or.inl ⟨by rfl, ?_⟩) (by assumption) ?_
 rotate_left 1
 . intro w hSw; (try dsimp only at hSw); go_simp; try with_reducible rfl
 try simp only [Act.put, List.setIfInBounds_toArray, List.set_cons_zero, List.set_cons_succ]
 refine wpAnyH_take (i := 55) (v := ?_) (rfl : _ = some (Oper.mk _ _ _ _ _ _)) (by kernel_rfl) (by kernel_rfl) (by kernel_rfl) (fun _ _ _ h => h) (Or.inl ⟨by rfl, ?_⟩) (by assumption) ?_
 rotate_left 1
 . intro w hSw; (try dsimp only at hSw); go_simp; try with_reducible rfl
 try simp only [Act.put, List.setIfInBounds_toArray, List.set_cons_zero, List.set_cons_succ]
 refine wpAnyH_take (i := 56) (v := ?_) (rfl : _ = some (Oper.mk _ _ _ _ _ _)) (by kernel_rfl) (by kernel_rfl) (by kernel_rfl) (fun _ _ _ h => h) (Or.inl ⟨by rfl, ?_⟩) (by assumption) ?_
 rotate_left 1
 . intro w hSw; (try dsimp only at hSw); go_simp; try with_reducible rfl
 try simp only [Act.put, List.setIfInBounds_toArray, List.set_cons_zero, List.set_cons_succ]
 refine wpAnyH_take (i := 57) (v := ?_) (rfl : _ = some (Oper.mk _ _ _ _ _ _)) (by kernel_rfl) (by kernel_rfl) (by kernel_rfl) (fun _ _ _ h => h) (Or.inl ⟨by rfl, ?_⟩) (by assumption) ?_
 rotate_left 1
 . intro w hSw; (try dsimp only at hSw); go_simp; try with_reducible rfl
 try simp only [Act.put, List.setIfInBounds_toArray, List.set_cons_zero, List.set_cons_succ]
 refine wpAnyH_take (i := 58) (v := ?_) (rfl : _ = some (Oper.mk _ _ _ _ _ _)) (by kernel_rfl) (by kernel_rfl) (by kernel_rfl) (fun _ _ _ h => h) (Or.inl ⟨by rfl, ?_⟩) (by assumption) ?_
 rotate_left 1
 . intro w hSw; (try dsimp only at hSw); go_simp; try with_reducible rfl
 try simp only [Act.put, List.setIfInBounds_toArray, List.set_cons_zero, List.set_cons_succ]
 refine wpAnyH_take (i := 59) (v := ?_) (rfl : _ = some (Oper.mk _ _ _ _ _ _)) (by kernel_rfl) (by kernel_rfl) (by kernel_rfl) (fun _ _ _ h => h) (Or.inl ⟨by rfl, ?_⟩) (by assumption) ?_
 rotate_left 1
 . intro w hSw; (try dsimp only at hSw); go_simp; try with_reducible rfl
 try simp only [Act.put, List.setIfInBounds_toArray, List.set_cons_zero, List.set_cons_succ]
 refine wpAnyH_take (i := 60) (v := ?_) (rfl : _ = some (Oper.mk _ _ _ _ _ _)) (by kernel_rfl) (by kernel_rfl) (by kernel_rfl) (fun _ _ _ h => h) (Or.inl ⟨by rfl, ?_⟩) (by assumption) ?_
 rotate_left 1
 . intro w hSw; (try dsimp only at hSw); go_simp; try with_reducible rfl
 try simp only [Act.put, List.setIfInBounds_toArray, List.set_cons_zero, List.set_cons_succ]
 refine wpAnyH_take (i := 61) (v := ?_) (rfl : _ = some (Oper.mk _ _ _ _ _ _)) (by kernel_rfl) (by kernel_rfl) (by kernel_rfl) (fun _ _ _ h => h) (Or.inl ⟨by rfl, ?_⟩) (by assumption) ?_
 rotate_left 1
 . intro w hSw; (try dsimp only at hSw); go_simp; try with_reducible rfl
 try simp only [Act.put, List.setIfInBounds_toArray, List.set_cons_zero, List.set_cons_succ]
 refine wpAnyH_take (i := 62) (v := ?_) (rfl : _ = some (Oper.mk _ _ _ _ _ _)) (by kernel_rfl) (by kernel_rfl) (by kernel_rfl) (fun _ _ _ h => h) (Or.inl ⟨by rfl, ?_⟩) (by assumption) ?_
 rotate_left 1
 . intro w hSw; (try dsimp only at hSw); go_simp; try with_reducible rfl
 try simp only [Act.put, List.setIfInBounds_toArray, List.set_cons_zero, List.set_cons_succ]
 refine wpAnyH_take (i := 63) (v := ?_) (rfl : _ = some (Oper.mk _ _ _ _ _ _)) (by kernel_rfl) (by kernel_rfl) (by kernel_rfl) (fun _ _ _ h => h) (Or.inl ⟨by rfl, ?_⟩) (by assumption) ?_
 rotate_left 1
 . intro w hSw; (try dsimp only at hSw); go_simp; try with_reducible rfl
 try simp only [Act.put, List.setIfInBounds_toArray, List.set_cons_zero, List.set_cons_succ]
 refine wpAnyH_take (i := 64) (v := ?_) (rfl : _ = some (Oper.mk _ _ _ _ _ _)) (by kernel_rfl) (by kernel_rfl) (by kernel_rfl) (fun _ _ _ h => h) (Or.inl ⟨by rfl, ?_⟩) (by assumption) ?_
 rotate_left 1
 . intro w hSw; (try dsimp only at hSw); go_simp; try with_reducible rfl
 try simp only [Act.put, List.setIfInBounds_toArray, List.set_cons_zero, List.set_cons_succ]
 refine wpAnyH_ready (rs := [9]) (by kernel_rfl) (by simp) ?_
 refine AllReadyH.cons (rfl : _ = some (Oper.mk _ _ _ _ _ _)) (fun K hKK => ?_) AllReadyH.nil
 rw [if_pos (by rfl)]
 go_simp
 refine (le32_at (HSC.out _ hHeld.1) HLEN.out 80 _ (by decide)).mono ?_
 rintro e w12 ⟨rfl, hbq⟩
 go_wp2_with fail
 refine hKK.out _ _ (HSP.out _ (bel_next hbq hHeld)) (fun hHeld' => ?_)
 clear hKK K hHeld
 have hHeld := hHeld'
 clear hHeld' hbq
 try simp only [Act.put, List.setIfInBounds_toArray, List.set_cons_zero, List.set_cons_succ]
 refine wpAnyH_ready (rs := [13]) (by kernel_rfl) (by simp) ?_
 refine AllReadyH.cons (rfl : _ = some (Oper.mk _ _ _ _ _ _)) (fun K hKK => ?_) AllReadyH.nil
 rw [if_pos (by rfl)]
 go_simp
 refine (le16_at (HSC.out _ hHeld.1) HLEN.out 120 _ (by decide)).mono ?_
 rintro e w12 ⟨⟨v13, rfl⟩, hbq⟩
 go_wp2_with fail
 refine hKK.out _ _ (HSP.out _ (bel_next hbq hHeld)) (fun hHeld' => ?_)
 clear hKK K hHeld
 have hHeld := hHeld'
 clear hHeld' hbq
 try simp only [Act.put, List.setIfInBounds_toArray, List.set_cons_zero, List.set_cons_succ]
 refine wpAnyH_ready (rs := [17]) (by kernel_rfl) (by simp) ?_
 refine AllReadyH.cons (rfl : _ = some (Oper.mk _ _ _ _ _ _)) (fun K hKK => ?_) AllReadyH.nil
 rw [if_pos (by rfl)]
 go_simp
 refine (le16_at (HSC.out _ hHeld.1) HLEN.out 124 _ (by decide)).mono ?_
 rintro e w12 ⟨⟨v17, rfl⟩, hbq⟩
 go_wp2_with fail
 refine hKK.out _ _ (HSP.out _ (bel_next hbq hHeld)) (fun hHeld' => ?_)
 clear hKK K hHeld
 have hHeld := hHeld'
 clear hHeld' hbq
 try simp only [Act.put, List.setIfInBounds_toArray, List.set_cons_zero, List.set_cons_succ]
 refine wpAnyH_ready (rs := [22]) (by kernel_rfl) (by simp) ?_
 refine AllReadyH.cons (rfl : _ = some (Oper.mk _ _ _ _ _ _)) (fun K hKK => ?_) AllReadyH.nil
 rw [if_pos (by rfl)]
 go_simp
 refine (le32_at (HSC.out _ hHeld.1) HLEN.out 132 _ (by decide)).mono ?_
 rintro e w12 ⟨rfl, hbq⟩
 go_wp2_with fail
 refine hKK.out _ _ (HSP.out _ (bel_next hbq hHeld)) (fun hHeld' => ?_)
 clear hKK K hHeld
 have hHeld := hHeld'
 clear hHeld' hbq
 try simp only [Act.put, List.setIfInBounds_toArray, List.set_cons_zero, List.set_cons_succ]
 refine wpAnyH_ready (rs := [26]) (by kernel_rfl) (by simp) ?_
 refine AllReadyH.cons (rfl : _ = some (Oper.mk _ _ _ _ _ _)) (fun K hKK => ?_) AllReadyH.nil
 rw [if_pos (by rfl)]
 go_simp
 refine (le32_at (HSC.out _ hHeld.1) HLEN.out 140 _ (by decide)).mono ?_
 rintro e w12 ⟨rfl, hbq⟩
 go_wp2_with fail
 refine hKK.out _ _ (HSP.out _ (bel_next hbq hHeld)) (fun hHeld' => ?_)
 clear hKK K hHeld
 have hHeld := hHeld'
 clear hHeld' hbq
 try simp only [Act.put, List.setIfInBounds_toArray, List.set_cons_zero, List.set_cons_succ]
 refine wpAnyH_ready (rs := [30]) (by kernel_rfl) (by simp) ?_
 refine AllReadyH.cons (rfl : _ = some (Oper.mk _ _ _ _ _ _)) (fun K hKK => ?_) AllReadyH.nil
 rw [if_pos (by rfl)]
 go_simp
 refine (le32_at (HSC.out _ hHeld.1) HLEN.out 144 _ (by decide)).mono ?_
 rintro e w12 ⟨rfl, hbq⟩
 go_wp2_with fail
 refine hKK.out _ _ (HSP.out _ (bel_next hbq hHeld)) (fun hHeld' => ?_)
 clear hKK K hHeld
 have hHeld := hHeld'
 clear hHeld' hbq
 try simp only [Act.put, List.setIfInBounds_toArray, List.set_cons_zero, List.set_cons_succ]
 refine wpAnyH_ready (rs := [34]) (by kernel_rfl) (by simp) ?_
 refine AllReadyH.cons (rfl : _ = some (Oper.mk _ _ _ _ _ _)) (fun K hKK => ?_) AllReadyH.nil
 rw [if_pos (by rfl)]
 go_simp
 refine (be32_at (HSC.out _ hHeld.1) HLEN.out 148 _ (by decide)).mono ?_
 rintro e w12 ⟨⟨v34, rfl⟩, hbq⟩
 go_wp2_with fail
 refine hKK.out _ _ (HSP.out _ (bel_next hbq hHeld)) (fun hHeld' => ?_)
 clear hKK K hHeld
 have hHeld := hHeld'
 clear hHeld' hbq
 try simp only [Act.put, List.setIfInBounds_toArray, List.set_cons_zero, List.set_cons_succ]
 refine wpAnyH_ready (rs := [38]) (by kernel_rfl) (by simp) ?_
 refine AllReadyH.cons (rfl : _ = some (Oper.mk _ _ _ _ _ _)) (fun K hKK => ?_) AllReadyH.nil
 rw [if_pos (by rfl)]
 go_simp
 refine (be32_at (HSC.out _ hHeld.1) HLEN.out 152 _ (by decide)).mono ?_
 rintro e w12 ⟨⟨v38, rfl⟩, hbq⟩
 go_wp2_with fail
 refine hKK.out _ _ (HSP.out _ (bel_next hbq hHeld)) (fun hHeld' => ?_)
 clear hKK K hHeld
 have hHeld := hHeld'
 clear hHeld' hbq
 try simp only [Act.put, List.setIfInBounds_toArray, List.set_cons_zero, List.set_cons_succ]
 refine wpAnyH_take (i := 65) (v := .agg #[.string s1, .string s2, .int .u32 (le4 bs 80), .int .u16 v13, .int .u16 v17, .int .u16 2048, .int .u32 (le4 bs 132), .int .u32 (le4 bs 140), .int .u32 (le4 bs 144), .int .u32 v34, .int .u32 v38, PB RD, .string s3, .string s4, .string s5, .string s6, .string s7, .string s8, .string s9, .int .i64 x7, .int .i64 0, .int .i64 a7, .int .i64 x8, .int .i64 0, .int .i64 a8, .int .i64 x9, .int .i64 0, .int .i64 a9, .int .i64 x10, .int .i64 0, .int .i64 a10]) (rfl : _ = some (Oper.mk _ _ _ _ _ _)) (by kernel_rfl) (by kernel_rfl) (by kernel_rfl) (fun _ _ _ h => h) (Or.inl ⟨by rfl, fun W hW => ?_⟩) (by assumption) ?_
 . exact build_step (P := Tryz.prog) (parts := #[(0, .string s1), (1, .string s2), (2, .int .u32 (le4 bs 80)), (3, .int .u16 v13), (4, .int .u16 v17), (5, .int .u16 2048), (6, .int .u32 (le4 bs 132)), (7, .int .u32 (le4 bs 140)), (8, .int .u32 (le4 bs 144)), (9, .int .u32 v34), (10, .int .u32 v38), (12, .string s3), (13, .string s4), (14, .string s5), (15, .string s6), (16, .string s7), (17, .string s8), (18, .string s9), (19, .agg #[.int .i64 x7, .int .i64 0, .int .i64 a7]), (20, .agg #[.int .i64 x8, .int .i64 0, .int .i64 a8]), (21, .agg #[.int .i64 x9, .int .i64 0, .int .i64 a9]), (22, .agg #[.int .i64 x10, .int .i64 0, .int .i64 a10]), (11, PB RD)]) (by simp only [List.map_toArray, List.map_cons, List.map_nil]; rfl) (run_build W 162 _ _ (by kernel_rfl))
 try simp only [Act.put, List.setIfInBounds_toArray, List.set_cons_zero, List.set_cons_succ]
 refine wpAnyH_ready (rs := [66]) (by kernel_rfl) (by simp) ?_
 refine AllReadyH.cons (rfl : _ = some (Oper.mk _ _ _ _ _ _)) (fun K hKK => ?_) AllReadyH.nil
 rw [if_pos (by rfl)]
 go_simp
 refine hKK.out _ _ (HSP.out _ (bel_new _ hHeld)) (fun hHeld' => ?_)
 clear hKK K
 have hOld := Lib.hid hHeld
 clear hHeld
 have hHeld := hHeld'
 clear hHeld'
 try simp only [Act.put, List.setIfInBounds_toArray, List.set_cons_zero, List.set_cons_succ]
 refine wpAnyH_take (i := 67) (v := ?_) (rfl : _ = some (Oper.mk _ _ _ _ _ _)) (by kernel_rfl) (by kernel_rfl) (by kernel_rfl) (fun _ _ _ h => h) (Or.inl ⟨by rfl, ?_⟩) (by assumption) ?_
 rotate_left 1
 . intro w hSw; (try dsimp only at hSw); go_simp; try with_reducible rfl
 try simp only [Act.put, List.setIfInBounds_toArray, List.set_cons_zero, List.set_cons_succ]
 refine wpAnyH_take (i := 68) (v := ?_) (rfl : _ = some (Oper.mk _ _ _ _ _ _)) (by kernel_rfl) (by kernel_rfl) (by kernel_rfl) (fun _ _ _ h => h) (Or.inl ⟨by rfl, ?_⟩) (by assumption) ?_
 rotate_left 1
 . intro w hSw; (try dsimp only at hSw); go_simp; try with_reducible rfl
 try simp only [Act.put, List.setIfInBounds_toArray, List.set_cons_zero, List.set_cons_succ]
 refine wpAnyH_done (by kernel_rfl) ?_ _
 go_wp2_with fail
 go_ret2
 have h4 := hOld.out.1
 have e6 : le4 bs 132 = pt := le4_of HPV.out.pt (by decide : 4 <= 8) rfl rfl rfl rfl hpt
 have e7 : le4 bs 140 = li := le4_of HPV.out.li (by decide : 4 <= 4) rfl rfl rfl rfl hli
 have hw12 : Below w.heap.size w w12 := (H11.out.below).trans (h4.mono H11.out.below.size)
 have hRDl := HE.out.lt
 refine ⟨w12.heap.size, RD, rfl, ⟨?_, ?_, ?_, ?_, ?_⟩, (HE.out.later h4).keep ((Below.refl w12.heap.size w12).alloc (Nat.le_refl _) _) (Nat.lt_of_lt_of_le hRDl h4.size), Nat.le_trans H10.out.below.size HRD.out, Nat.lt_of_lt_of_le hRDl h4.size, hw12.alloc hw12.size _⟩
 . rw [show ofL (vol ++ List.replicate (32 - vol.length) 32) = s2 by rw [<- HS2.out, vol_part HPV.out.vol HPV.out.len hvol]]
   exact blk_cell (heap_alloc_new w12 _) 1 _ rfl
 . exact blk_cell (heap_alloc_new w12 _) 5 _ rfl
 . rw [<- e6]; exact blk_cell (heap_alloc_new w12 _) 6 _ rfl
 . rw [<- e7]; exact blk_cell (heap_alloc_new w12 _) 7 _ rfl
 . exact blk_cell (heap_alloc_new w12 _) 11 _ rfl
theorem srcO_rdB {w : World} {D k n c : Nat} {l m : List UInt8} (B' : Nat) (h : SrcO w D 0 l) (hB : D < B') (hm : m.length = n) (hh : Holds l k m) : Rd w B' (.slice (some ⟨D, k, none⟩) n c) m := by
 have e := SrcO.rd (c := c) h hm (by intro j hj; exact hh j (by omega))
 rw [Nat.zero_add] at e
 obtain ⟨A, c', e1, _, e3⟩ := e
 cases e1
 exact ⟨_, _, by rw [hm], (fun ad h => by cases h; exact hB), e3⟩
theorem sig_bytes {w : World} {D : Nat} {bs : List UInt8} {t : UInt8} (h : SrcO w D 0 bs) (hh : Holds bs 0 [t, 67, 68, 48, 48, 49, 1]) : w.cell? ⟨D, 0, none⟩ = some (BV t) /\ w.cell? ⟨D, 6, none⟩ = some (.int .u8 1) :=
 ⟨(h.part hh).2 0 _ rfl, (h.part hh).2 6 _ rfl⟩
theorem magic_be : ((Lib.beNat [0, 0, 0, 67, 68, 48, 48, 49] : Nat) : Int) = 288906817585 := by decide
theorem volDesc_pvd (D pt li : Nat) (bs vol : List UInt8) (r : Rec) (w : World) (hs : SrcO w D 0 bs) (hP : PvdHas bs vol r.bytes pt li) (hok : r.Ok) (hid : r.id.length = 1) (hpt : pt < 4294967296) (hli : li < 4294967296) (hvol : vol.length <= 32) :
 Calls Tryz.prog 77 #[.slice (some ⟨D, 0, none⟩) 2048 2048] w fun e w' => ∃ V RD, e = .returned (.tuple #[.iface 147 (PB V), .nilIface]) /\ PvdAt w' V RD vol pt li /\ EntAt w' RD r (.pointer none) /\ w.heap.size <= RD /\ RD < V /\ Below w.heap.size w w' := by
 have hDl := hs.1
 have h15 : Holds bs 1 [67, 68, 48, 48, 49] := fun j hj => by
  have := hP.sig (1 + j) (by simp at hj ⊢; omega)
  rw [Nat.zero_add] at this
  rw [this, Nat.add_comm, List.getElem?_cons_succ]
  exact List.getElem?_append_left (l₂ := [1]) hj
 have b1 := sig_bytes hs hP.sig
 obtain ⟨hb0, hb6⟩ := b1
 have hb0 : w.cell? ⟨D, 0, none⟩ = some (.int .u8 1) := hb0
 have KS : ∀ W, Below w.heap.size w W -> SrcO W D 0 bs := fun W h => hs.later h
 have KC0 : ∀ W, Below w.heap.size w W -> W.cell? ⟨D, 0, none⟩ = some (.int .u8 1) := fun W h => by rw [h.cell (p := ⟨D, 0, none⟩) hDl]; exact hb0
 have KC6 : ∀ W, Below w.heap.size w W -> W.cell? ⟨D, 6, none⟩ = some (.int .u8 1) := fun W h => by rw [h.cell (p := ⟨D, 6, none⟩) hDl]; exact hb6
 have HK := Lib.hid KS
 have HP := Lib.hid hP
 have H15 := Lib.hid h15
 have H0 := Lib.hid KC0
 have H6 := Lib.hid KC6
 have HM := Lib.hid magic_be
 clear hs hP KS KC0 KC6 h15 hb0 hb6
 go_enter Tryz.func77, Tryz.ntmps77
 go_upto_region 4 with (first
  | (at_make; go_must (refine asList rfl fun KK hKK => ?_); go_must (refine go_makeN (w0 := w) (.const (.int .i64 8)) (.const (.int .i64 8)) rfl w.heap.size _ _ _ _ 8 8 rfl rfl (by rfl) (by rfl) (by omega) (by omega) (Below.refl _ _) (Nat.le_refl _) ?_); go_must (intro w1 L1 hL1 hl1 ho1 hb1 hs1); go_must (refine hKK _ _ ?_); clear hKK KK))
 go_region_held3 (fun _ => True) (trivial) (first
  | (refine asStep rfl ?_; refine wp_copyRd (.tmp 16) (.tmp 18) rfl w.heap.size w.heap.size _ 3 8 5 5 8 5 _ [67, 68, 48, 48, 49] _ rfl hl1.out.symm ho1 (Below.refl _ _).drew hb1 (Nat.le_refl _) rfl (by decide) (by decide) rfl (by exact srcO_rdB _ (HK.out _ (hb1.drew)) hDl rfl H15.out) ?_; intro w3 ho3 hb3 hl3 hg3))
 have e3 : splice L1 3 [67, 68, 48, 48, 49] = [0, 0, 0, 67, 68, 48, 48, 49] := by rw [hL1.out]; rfl
 rw [e3] at ho3
 have c3 := fun j hj => ho3.cell j hj
 have k0 := c3 0 (by decide); have k1 := c3 1 (by decide); have k2 := c3 2 (by decide); have k3 := c3 3 (by decide); have k4 := c3 4 (by decide); have k5 := c3 5 (by decide); have k6 := c3 6 (by decide); have k7 := c3 7 (by decide)
 have K0 := Lib.hid k0; have K1 := Lib.hid k1; have K2 := Lib.hid k2; have K3 := Lib.hid k3; have K4 := Lib.hid k4; have K5 := Lib.hid k5; have K6 := Lib.hid k6; have K7 := Lib.hid k7
 clear k0 k1 k2 k3 k4 k5 k6 k7 c3 ho3 ho1 e3 hl3 hg3 hL1 hl1 H15 hs1 hb1
 go_upto_region 17 with (first
  | (go_at_call 95; go_must (refine (Tryz.binary_BE_Uint64 w.heap.size 0 8 8 0 0 0 67 68 48 48 49 _ (by decide) K0.out K1.out K2.out K3.out K4.out K5.out K6.out K7.out).mono ?_); go_must (rintro e w4 ⟨rfl, hb4⟩); have hb5 : Below w.heap.size w w4 := hb3.trans (hb4.mono hb3.size); have q6 := H6.out _ hb5; have q0 := H0.out _ hb5; rw [HM.out]; clear hb4))
 have HSW := Lib.hid (HK.out _ hb5)
 go_wp2_with (first
  | (go_at_call 96; go_must (refine (pvd_any D pt li bs vol r _ HSW.out HP.out hok hid hpt hli hvol).mono ?_); go_must (rintro e w5 ⟨V, RD, rfl, hV, hE, hB1, hB2, hb6⟩)))
 refine bodyPost_ret (v := .tuple #[_, _]) (results_tmp2 rfl _ _ _) rfl ?_
 exact ⟨V, RD, rfl, hV, hE, Nat.le_trans hb5.size hB1, hB2, hb5.trans (hb6.mono hb5.size)⟩
theorem volDesc_term (D : Nat) (bs : List UInt8) (w : World) (hs : SrcO w D 0 bs) (hP : Holds bs 0 [255, 67, 68, 48, 48, 49, 1]) :
 Calls Tryz.prog 77 #[.slice (some ⟨D, 0, none⟩) 2048 2048] w fun e w' => ∃ V, e = .returned (.tuple #[.iface 225 (PB V), .nilIface]) /\ Below w.heap.size w w' := by
 have hDl := hs.1
 have h15 : Holds bs 1 [67, 68, 48, 48, 49] := fun j hj => by
  have := hP (1 + j) (by simp at hj ⊢; omega)
  rw [Nat.zero_add] at this
  rw [this, Nat.add_comm, List.getElem?_cons_succ]
  exact List.getElem?_append_left (l₂ := [1]) hj
 have b1 := sig_bytes hs hP
 obtain ⟨hb0, hb6⟩ := b1
 have hb0 : w.cell? ⟨D, 0, none⟩ = some (.int .u8 255) := hb0
 have KS : ∀ W, Below w.heap.size w W -> SrcO W D 0 bs := fun W h => hs.later h
 have KC0 : ∀ W, Below w.heap.size w W -> W.cell? ⟨D, 0, none⟩ = some (.int .u8 255) := fun W h => by rw [h.cell (p := ⟨D, 0, none⟩) hDl]; exact hb0
 have KC6 : ∀ W, Below w.heap.size w W -> W.cell? ⟨D, 6, none⟩ = some (.int .u8 1) := fun W h => by rw [h.cell (p := ⟨D, 6, none⟩) hDl]; exact hb6
 have HK := Lib.hid KS
 have HP := Lib.hid hP
 have H15 := Lib.hid h15
 have H0 := Lib.hid KC0
 have H6 := Lib.hid KC6
 have HM := Lib.hid magic_be
 clear hs hP KS KC0 KC6 h15 hb0 hb6
 go_enter Tryz.func77, Tryz.ntmps77
 go_upto_region 4 with (first
  | (at_make; go_must (refine asList rfl fun KK hKK => ?_); go_must (refine go_makeN (w0 := w) (.const (.int .i64 8)) (.const (.int .i64 8)) rfl w.heap.size _ _ _ _ 8 8 rfl rfl (by rfl) (by rfl) (by omega) (by omega) (Below.refl _ _) (Nat.le_refl _) ?_); go_must (intro w1 L1 hL1 hl1 ho1 hb1 hs1); go_must (refine hKK _ _ ?_); clear hKK KK))
 go_region_held3 (fun _ => True) (trivial) (first
  | (refine asStep rfl ?_; refine wp_copyRd (.tmp 16) (.tmp 18) rfl w.heap.size w.heap.size _ 3 8 5 5 8 5 _ [67, 68, 48, 48, 49] _ rfl hl1.out.symm ho1 (Below.refl _ _).drew hb1 (Nat.le_refl _) rfl (by decide) (by decide) rfl (by exact srcO_rdB _ (HK.out _ (hb1.drew)) hDl rfl H15.out) ?_; intro w3 ho3 hb3 hl3 hg3))
 have e3 : splice L1 3 [67, 68, 48, 48, 49] = [0, 0, 0, 67, 68, 48, 48, 49] := by rw [hL1.out]; rfl
 rw [e3] at ho3
 have c3 := fun j hj => ho3.cell j hj
 have k0 := c3 0 (by decide); have k1 := c3 1 (by decide); have k2 := c3 2 (by decide); have k3 := c3 3 (by decide); have k4 := c3 4 (by decide); have k5 := c3 5 (by decide); have k6 := c3 6 (by decide); have k7 := c3 7 (by decide)
 have K0 := Lib.hid k0; have K1 := Lib.hid k1; have K2 := Lib.hid k2; have K3 := Lib.hid k3; have K4 := Lib.hid k4; have K5 := Lib.hid k5; have K6 := Lib.hid k6; have K7 := Lib.hid k7
 clear k0 k1 k2 k3 k4 k5 k6 k7 c3 ho3 ho1 e3 hl3 hg3 hL1 hl1 H15 hs1 hb1
 go_wp2_with (first
  | (go_at_call 95; go_must (refine (Tryz.binary_BE_Uint64 w.heap.size 0 8 8 0 0 0 67 68 48 48 49 _ (by decide) K0.out K1.out K2.out K3.out K4.out K5.out K6.out K7.out).mono ?_); go_must (rintro e w4 ⟨rfl, hb4⟩); have hb5 : Below w.heap.size w w4 := hb3.trans (hb4.mono hb3.size); have q6 := H6.out _ hb5; have q0 := H0.out _ hb5; rw [HM.out]; clear hb4))
 refine bodyPost_ret (v := .tuple #[_, _]) (results_tmp2 rfl _ _ _) rfl ?_
 exact ⟨_, rfl, hb5.alloc hb5.size _⟩
end Go.Proofs.YtilgpaeeleknhaaGreatDoor
