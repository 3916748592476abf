/- A part of the proof of laws.FnIsoRock (see the last text). -/
import Derived.Test.YtilgpaeeleknhaaGreatDoorJr32
set_option linter.unusedSimpArgs false
set_option linter.unusedVariables false
set_option maxRecDepth 1000000
set_option maxHeartbeats 8000000
namespace Go.Proofs.YtilgpaeeleknhaaGreatDoor
open Go Go.RowKit
def LinkI (f : File) (tl : List Item) : Prop := (f.target.data.toList = [] /\ tl = []) \/ (f.target.data.toList ≠ [] /\ f.dir = false /\ ∃ cs, tl = [.sl cs] /\ compsN cs = f.target.data.toList)
structure Told (f : File) (x : RX) : Prop where
 self : x.r.self = false
 par : x.r.par = false
 d : x.r.d = f.dir
 t : x.r.t = f.time
 fo : ∃ l tl, x.fo = [.px f l, .tf f.time, .nm x.nm] ++ tl /\ l < 4294967296 /\ LinkI f tl
 perm : f.perm < 512
 t0 : 0 <= f.time
 t1 : f.time < 4102444800
 len : x.nm.length <= 1000
 trim : f.dir = false -> Lib.trimSuffix x.nm [59, 49] = x.nm /\ Lib.trimSuffix x.nm [46] = x.nm /\ Lib.trimPrefix x.nm [46] = x.nm
theorem Told.two {f : File} {x : RX} (h : Told f x) : 3 <= x.fo.length /\ x.fo.length <= 4 := by
 obtain ⟨l, tl, e, _, ht⟩ := h.fo
 rw [e]
 rcases ht with ⟨_, rfl⟩ | ⟨_, _, cs, rfl, _⟩ <;> simp
theorem Told.nmAt {f : File} {x : RX} (h : Told f x) : NmAt x.fo x.nm := by
 obtain ⟨l, tl, e, _, ht⟩ := h.fo
 rw [e]
 refine ⟨2, rfl, fun j hj s' => ?_⟩
 match j, hj with
 | 0, _ => simp
 | 1, _ => simp
theorem isDirX_any (w : World) (b : Nat) (x : RX) (fs : Value) (h : EntX w b x.r true x.fo fs) : Calls Tryz.prog 90 #[PB b] w fun e w' => e = .returned (.bool x.r.d) /\ w' = w := by
 have hd := h.cells.d
 go_enter Tryz.func90, Tryz.ntmps90
 go_wp2
 go_ret
 exact ⟨rfl, rfl⟩
theorem sizeX_any (w : World) (b : Nat) (x : RX) (fs : Value) (h : EntX w b x.r true x.fo fs) (hs : x.r.s < 4294967296) : Calls Tryz.prog 67 #[PB b] w fun e w' => e = .returned (.int .i64 x.r.s) /\ w' = w := by
 have hd := h.cells.s
 go_enter Tryz.func67, Tryz.ntmps67
 go_wp2
 go_ret
 exact ⟨rfl, rfl⟩
theorem modTimeX_any (w : World) (b : Nat) (f : File) (x : RX) (fs : Value) (h : EntX w b x.r true x.fo fs) (ht : Told f x) : Calls Tryz.prog 187 #[PB b] w fun e w' => ∃ a, e = .returned (.agg #[.int .i64 (f.time + 62135596800), .int .i64 0, .int .i64 a]) /\ Below w.heap.size w w' := by
 have hb := h.lt
 obtain ⟨z, a, X, co, vs, hz, h, _⟩ := h
 have hz : z = f.time + 62135596800 := by rw [<- ht.t]; exact hz (by rw [ht.t]; exact ht.t0) (by rw [ht.t]; exact ht.t1)
 subst hz
 have c3 := fun o => old_cell o (exC_cell h 3 _ rfl)
 have c4 := fun o => old_cell o (exC_cell h 4 _ rfl)
 have c5 := fun o => old_cell o (exC_cell h 5 _ rfl)
 go_enter Tryz.func187, Tryz.ntmps187
 go_wp2
 refine bodyPost_ret (v := .agg #[_, _, _]) (results_cell_row rfl _ _ w.heap.size 160 #[_, _, _] (0, 0) _ rfl (heap_alloc_new w _) Tryz.underlying160 rfl (by exact info160)) rfl ?_
 exact ⟨a, rfl, (Below.refl _ _).alloc (Nat.le_refl _) _⟩
theorem nameX_any (w : World) (b F M D : Nat) (img : List UInt8) (f : File) (x : RX) (h : EntX w b x.r true x.fo (PB F)) (hF : FsR w F M D true img) (ht : Told f x) : Calls Tryz.prog 89 #[PB b] w fun e w' => e = .returned (SV x.nm) /\ Below w.heap.size w w' := by
 have hd := h.cells.name
 have hf := h.cells.fs
 have HE := Lib.hid h
 have HT := Lib.hid ht
 have f11 := hF.sus
 obtain ⟨hv, f13, hHV⟩ := hF.exts
 obtain ⟨g13, c13, R13, rfl, hg13, hR13, e13, _⟩ : ∃ g c' R, hv = .slice (some ⟨g, 0, none⟩) 1 c' /\ g < w.heap.size /\ R < w.heap.size /\ w.cell? ⟨g, 0, none⟩ = some (.iface 255 (PB R)) /\ w.cell? ⟨R, 4, none⟩ = some (.int .i64 36) := hHV
 have m2 := method_GetFilename ⟨R13, 0, none⟩
 clear h ht hF
 go_enter Tryz.func89, Tryz.ntmps89
 go_upto_region 4 with (fail)
 refine wp_loop_rounds 2 ?_
 rw [rounds_succ]
 go_wp2_with (first
  | (go_at_call 242; go_must (refine (fileName_any R13 b x.r x.fo _ x.nm _ HE.out (Nat.le_trans HT.out.two.2 (by decide)) HT.out.nmAt).mono ?_); rintro e w6 ⟨rfl, hb6⟩))
 rw [rounds_succ]
 have HE6 := Lib.hid (HE.out.later hb6)
 cases hdir : x.r.d with
 | true =>
   go_wp2_with (go_at_call 90; refine (isDirX_any _ b x _ HE6.out).mono ?_; rintro e w1 ⟨rfl, rfl⟩; rw [hdir])
   go_ret
   exact ⟨rfl, hb6⟩
 | false =>
   obtain ⟨t1, t2, t3⟩ := HT.out.trim (by rw [<- HT.out.d]; exact hdir)
   have e1 : (⟨(Lib.trimSuffix (ofL x.nm).data.toList [59, 49]).toArray⟩ : ByteArray) = ofL x.nm := by show (⟨(Lib.trimSuffix x.nm [59, 49]).toArray⟩ : ByteArray) = _; rw [t1]
   have e2 : (⟨(Lib.trimSuffix (ofL x.nm).data.toList [46]).toArray⟩ : ByteArray) = ofL x.nm := by show (⟨(Lib.trimSuffix x.nm [46]).toArray⟩ : ByteArray) = _; rw [t2]
   have e3 : (⟨(Lib.trimPrefix (ofL x.nm).data.toList [46]).toArray⟩ : ByteArray) = ofL x.nm := by show (⟨(Lib.trimPrefix x.nm [46]).toArray⟩ : ByteArray) = _; rw [t3]
   have hl : (ofL x.nm).size <= 9223372036854775807 := by have := HT.out.len; rw [Lib.size_eq]; show x.nm.length <= _; omega
   have H1 := Lib.hid (fun W => (Tryz.strings_TrimSuffix (ofL x.nm) ⟨#[59, 49]⟩ W hl)); have H2 := Lib.hid (fun W => (Tryz.strings_TrimSuffix (ofL x.nm) ⟨#[46]⟩ W hl)); have H3 := Lib.hid (fun W => (Tryz.strings_TrimPrefix (ofL x.nm) ⟨#[46]⟩ W))
   have E1 := Lib.hid e1; have E2 := Lib.hid e2; have E3 := Lib.hid e3
   clear t1 t2 t3 e1 e2 e3 hl
   go_upto_region 12 with (first
    | (go_at_call 116; refine (H1.out _).mono ?_; rintro e w2 ⟨rfl, rfl⟩; rw [E1.out])
    | (go_at_call 90; refine (isDirX_any _ b x _ HE6.out).mono ?_; rintro e w1 ⟨rfl, rfl⟩; rw [hdir]))
   go_wp2_with (first
    | (go_at_call 117; refine (H3.out _).mono ?_; rintro e w4 ⟨rfl, rfl⟩; rw [E3.out])
    | (go_at_call 116; refine (H2.out _).mono ?_; rintro e w3 ⟨rfl, rfl⟩; rw [E2.out]))
   go_ret
   exact ⟨rfl, hb6⟩
theorem Told.px {f : File} {x : RX} {fs : Value} {w : World} {b : Nat} (ht : Told f x) (h : EntX w b x.r true x.fo fs) : ∃ g co l, w.cell? ⟨b, 18, none⟩ = some (.slice (some ⟨g, 0, none⟩) x.fo.length co) /\ w.cell? ⟨g, 0, none⟩ = some (pxV (goMode f) l f.uid f.gid) := by
 obtain ⟨g, co, h18, hat⟩ := h.at (by have := ht.two.1; omega)
 obtain ⟨l, tl, e, _⟩ := ht.fo
 obtain ⟨v, hv, _, hc⟩ := hat 0 (.px f l) (by rw [e]; rfl)
 have hv : v = pxV (goMode f) l f.uid f.gid := hv
 exact ⟨g, co, l, h18, by rw [<- hv]; exact hc⟩
theorem modeX_any (w : World) (b : Nat) (f : File) (x : RX) (fs : Value) (h : EntX w b x.r true x.fo fs) (ht : Told f x) : Calls Tryz.prog 188 #[PB b] w fun e w' => e = .returned (.int .u32 (goMode f)) /\ Below w.heap.size w w' := by
 obtain ⟨g, co, l, h18, c0⟩ := ht.px h
 have h3 := ht.two.1
 obtain ⟨N, hN⟩ : ∃ N, x.fo.length = N := ⟨_, rfl⟩
 rw [hN] at h3 h18
 obtain ⟨m, hm⟩ : ∃ m, goMode f = m := ⟨_, rfl⟩
 rw [hm] at c0 ⊢
 unfold pxV at c0
 have q1 := as359
 have hX := Lib.hid (heap_alloc_new w (.cells #[.int .u32 m, .int .i64 36, .int .u32 l, .int .u32 f.uid, .int .u32 f.gid, .int .u64 0] 359))
 have x0 := ent_cell (cs := [.int .u32 m, .int .i64 36, .int .u32 l, .int .u32 f.uid, .int .u32 f.gid, .int .u64 0]) hX.out 0 _ rfl
 clear h ht hN hm
 go_enter Tryz.func188, Tryz.ntmps188
 go_wp2
 refine wp_loop_rounds 1 ?_
 rw [rounds_succ]
 go_wp2_with (first
  | (refine atStore 359 ?_; go_must (refine wpList_storeNew rfl 359 _ _ rfl _ #[.int .u32 m, .int .i64 36, .int .u32 l, .int .u32 f.uid, .int .u32 f.gid, .int .u64 0] _ _ rfl rfl (by kernel_rfl) (by rfl) (by rfl) ?_)))
 go_ret
 exact ⟨rfl, (Below.refl _ _).alloc (Nat.le_refl _) _⟩
theorem genW {P : Program} {c : Code} {Q : Exit -> Act -> World -> Prop} {a : Act} {w : World} (F : World -> Prop) (h : F w) (k : ∀ W, F W -> Code.wp P c Q a W) : Code.wp P c Q a w := k w h
theorem as369 (v : Value) (w : World) : (Instr.typeAssert (.iface 369 v) 247 369 true).run Tryz.prog w = .ok (.tuple #[v, .bool true]) w := by kernel_rfl
theorem as369_no (v : Value) (w : World) : (Instr.typeAssert (.iface 366 v) 247 369 true).run Tryz.prog w = .ok (.tuple #[.agg #[.bool false, .slice none 0 0], .bool false]) w := by kernel_rfl
theorem as370_no (t : TypeId) (v : Value) (w : World) (h : t = 366 \/ t = 369) : (Instr.typeAssert (.iface t v) 247 370 true).run Tryz.prog w = .ok (.tuple #[.agg #[.int .u32 0], .bool false]) w := by rcases h with rfl | rfl <;> kernel_rfl
theorem as371_no (t : TypeId) (v : Value) (w : World) (h : t = 366 \/ t = 369) : (Instr.typeAssert (.iface t v) 247 371 true).run Tryz.prog w = .ok (.tuple #[.agg #[.int .u32 0], .bool false]) w := by rcases h with rfl | rfl <;> kernel_rfl
theorem as372_no' (t : TypeId) (v : Value) (w : World) (h : t = 366 \/ t = 369) : (Instr.typeAssert (.iface t v) 247 372 true).run Tryz.prog w = .ok (.tuple #[.agg #[], .bool false]) w := by rcases h with rfl | rfl <;> kernel_rfl
theorem as374_no (t : TypeId) (v : Value) (w : World) (h : t = 366 \/ t = 369) : (Instr.typeAssert (.iface t v) 247 374 true).run Tryz.prog w = .ok (.tuple #[.agg #[.int .i64 0, .int .u32 0, .int .u32 0, .int .u8 0], .bool false]) w := by rcases h with rfl | rfl <;> kernel_rfl
theorem as376_no (t : TypeId) (v : Value) (w : World) (h : t = 366 \/ t = 369) : (Instr.typeAssert (.iface t v) 247 376 true).run Tryz.prog w = .ok (.tuple #[.agg #[.int .u32 0, .int .u32 0], .bool false]) w := by rcases h with rfl | rfl <;> kernel_rfl
def statX (e : Nat) (u g l : Nat) (h : Bool) (t : List UInt8) : List Value := [.int .u8 0, .int .u32 e, .int .u16 1, .bool false, .bool false, .bool false, .bool false, .int .u32 u, .int .u32 g, .int .u32 l, .int .u32 0, .string (ofL t), .bool h]
theorem statX_set (w : World) (k j : Nat) (cs : List Value) (v : Value) (h : w.heap[k]? = some (.cells cs.toArray 207)) : (w.setCell ⟨k, j, none⟩ v).heap[k]? = some (.cells (cs.set j v).toArray 207) := by
 have := heap_setCell_same w k j _ 207 v h
 rw [this]
 congr 2
 apply Array.ext'
 simp
theorem statTX_any (w : World) (b : Nat) (f : File) (x : RX) (fs : Value) (h : EntX w b x.r true x.fo fs) (ht : Told f x) : Calls Tryz.prog 192 #[PB b] w fun e w' => ∃ k l, e = .returned (PB k) /\ w.heap.size <= k /\ w'.heap[k]? = some (.cells (statX x.r.e f.uid f.gid l true f.target.data.toList).toArray 207) /\ Below w.heap.size w w' := by
 have h34 := ht.two
 obtain ⟨g, co, h18, hat⟩ := h.at (by omega)
 obtain ⟨l, tl, hfo, hl, hlk⟩ := ht.fo
 obtain ⟨N, hN⟩ : ∃ N, x.fo.length = N := ⟨_, rfl⟩
 rw [hN] at h34 h18
 have hg : g < w.heap.size := by obtain ⟨_, _, hg, _⟩ := hat 0 (.px f l) (by rw [hfo]; rfl); exact hg
 obtain ⟨v0, hv0, _, c0⟩ := hat 0 (.px f l) (by rw [hfo]; rfl)
 obtain ⟨v1, hv1, _, c1⟩ := hat 1 (.tf f.time) (by rw [hfo]; rfl)
 obtain ⟨v2, hv2, _, c2⟩ := hat 2 (.nm x.nm) (by rw [hfo]; rfl)
 have hv0 : v0 = pxV (goMode f) l f.uid f.gid := hv0
 obtain ⟨cs1, hv1⟩ : ∃ cs, v1 = .iface 369 (.agg cs) := hv1
 have hv2 : v2 = .iface 366 (.agg #[.bool false, .bool false, .bool false, .string (ofL x.nm)]) := hv2
 subst hv0 hv1 hv2
 have H3 : Hid ((N = 3 /\ f.target.data.toList = []) \/ (N = 4 /\ w.cell? ⟨g, 3, none⟩ = some (.iface 362 (.agg #[.bool false, .string (ofL f.target.data.toList)])))) := by
  unfold Hid
  rcases hlk with ⟨e, rfl⟩ | ⟨_, _, cs, rfl, e⟩
  . left; exact ⟨by rw [<- hN, hfo]; rfl, e⟩
  . right
    obtain ⟨v3, hv3, _, c3⟩ := hat 3 (.sl cs) (by rw [hfo]; rfl)
    have hv3 : v3 = .iface 362 (.agg #[.bool false, .string (ofL (compsN cs))]) := hv3
    exact ⟨by rw [<- hN, hfo]; rfl, by rw [<- e, <- hv3]; exact c3⟩
 have hb := h.lt
 obtain ⟨z, a, X, co2, vs, hz, h, _⟩ := h
 have b0 := exC_cell h 0 _ rfl
 have b1 := exC_cell h 1 _ rfl
 have b15 := exC_cell h 15 _ rfl
 have b6 := exC_cell h 6 _ rfl
 have b8 := exC_cell h 8 _ rfl
 have b9 := exC_cell h 9 _ rfl
 have b10 := exC_cell h 10 _ rfl
 obtain ⟨re, hre⟩ : ∃ re, x.r.e = re := ⟨_, rfl⟩
 rw [hre] at b1
 obtain ⟨m, hm⟩ : ∃ m, goMode f = m := ⟨_, rfl⟩
 obtain ⟨T, hT⟩ : ∃ T, f.target.data.toList = T := ⟨_, rfl⟩
 obtain ⟨U, hU⟩ : ∃ U, f.uid = U := ⟨_, rfl⟩
 obtain ⟨G, hG⟩ : ∃ G, f.gid = G := ⟨_, rfl⟩
 rw [hm, hU, hG] at c0
 rw [hT] at H3
 rw [hre, hT, hU, hG]
 unfold pxV at c0
 have C0 := Lib.hid c0; have C1 := Lib.hid c1; have C2 := Lib.hid c2
 clear h hre hat hfo hlk hN hz ht hm hT hU hG c0 c1 c2
 go_enter Tryz.func192, Tryz.ntmps192
 go_wp2
 go_region_held3 (fun W => W.cell? ⟨b, 0, none⟩ = some (.int .u8 0) /\ W.cell? ⟨b, 1, none⟩ = some (.int .u32 re) /\ W.cell? ⟨b, 15, none⟩ = some (.int .u16 1) /\ W.cell? ⟨b, 6, none⟩ = some (.bool false) /\ W.cell? ⟨b, 8, none⟩ = some (.bool false) /\ W.cell? ⟨b, 9, none⟩ = some (.bool false) /\ W.cell? ⟨b, 10, none⟩ = some (.bool false) /\ W.cell? ⟨b, 18, none⟩ = some (.slice (some ⟨g, 0, none⟩) N co)) (first | exact ⟨b0, b1, b15, b6, b8, b9, b10, h18⟩ | go_keep) (fail)
 go_upto_region 2 with (fail)
 refine genW (F := fun W => Below w.heap.size w W /\ W.heap[w.heap.size]? = some (.cells (statX re 0 0 0 false []).toArray 207)) ⟨((Below.refl _ _).alloc (Nat.le_refl _) _).drew, heap_alloc_new w _⟩ (fun w1 h1 => ?_)
 obtain ⟨hb1, hK1⟩ := h1
 have d18 := (hb1.cell (p := ⟨b, 18, none⟩) hb).trans h18
 obtain ⟨kb, hkb⟩ : ∃ kb, w.heap.size = kb := ⟨_, rfl⟩
 have HKB := Lib.hid hkb
 have hgk : g < kb := by omega
 rw [hkb] at hK1 ⊢
 go_wp2
 go_loopw [44] (fun iv wr => ∃ k : Nat, k <= N /\ iv = .int .i64 k /\ Below w.heap.size w wr /\ Hid (wr.heap[kb]? = some (.cells (if k = 0 then statX re 0 0 0 false [] else if k < 4 then statX re U G l true [] else statX re U G l true T).toArray 207))) (fun iv _ => N - (intOf iv).toNat)
 case atStart => exact ⟨0, Nat.zero_le _, rfl, hb1, hK1⟩
 case round =>
  obtain ⟨k, hk, rfl, hbr, hK⟩ := hrel
  clear d18 hb1 hK1
  by_cases hlt : k < N
  . have hkbl : kb < wr.heap.size := (Array.getElem?_eq_some_iff.1 hK.out).1
    have h4 : k = 0 \/ k = 1 \/ k = 2 \/ k = 3 := by omega
    rcases h4 with rfl | rfl | rfl | rfl
    . have c0 := (hbr.cell (p := ⟨g, 0, none⟩) hg).trans C0.out
      have q1 := as359
      go_upto_region 8 with (first
       | (refine atStore 359 ?_; go_must (refine wpList_storeNew rfl 359 _ _ rfl _ #[.int .u32 m, .int .i64 36, .int .u32 l, .int .u32 U, .int .u32 G, .int .u64 0] _ _ rfl rfl (by kernel_rfl) (by rfl) (by rfl) ?_)))
      refine genW (F := fun W => Below w.heap.size w W /\ W.heap[kb]? = some (.cells (statX re 0 0 0 false []).toArray 207) /\ W.heap[wr.heap.size]? = some (.cells [.int .u32 m, .int .i64 36, .int .u32 l, .int .u32 U, .int .u32 G, .int .u64 0].toArray 359)) ⟨hbr.alloc hbr.size _, (heap_alloc_old wr _ hkbl).trans hK.out, heap_alloc_new wr _⟩ (fun w2 h2 => ?_)
      obtain ⟨pb, hpb⟩ : ∃ pb, wr.heap.size = pb := ⟨_, rfl⟩
      rw [hpb] at h2 hkbl ⊢
      have hkp : kb ≠ pb := by omega
      have HBR := Lib.hid hbr
      clear hbr hK c0 q1 hpb
      obtain ⟨hb2, hA2, hP2⟩ := h2
      have s1 := ent_cell hA2 12 _ rfl; have s2 := ent_frozen hA2 12
      go_upto_region 9 with (fail)
      refine genW (F := fun W => Below w.heap.size w W /\ W.heap[kb]? = some (.cells (statX re 0 0 0 true []).toArray 207) /\ W.heap[pb]? = some (.cells [.int .u32 m, .int .i64 36, .int .u32 l, .int .u32 U, .int .u32 G, .int .u64 0].toArray 359)) ⟨hb2.setCell (p := ⟨kb, 12, none⟩) (by rw [HKB.out]; exact Nat.le_refl _) _, statX_set w2 kb 12 _ _ hA2, (heap_setCell_other w2 ⟨kb, 12, none⟩ pb _ (fun e => hkp e.symm)).trans hP2⟩ (fun w3 h3 => ?_)
      clear s1 s2 hb2 hA2 hP2
      obtain ⟨hb3, hA3, hP3⟩ := h3
      have x3 := ent_cell hP3 3 _ rfl
      have s1 := ent_cell hA3 7 _ rfl; have s2 := ent_frozen hA3 7
      go_upto_region 10 with (fail)
      refine genW (F := fun W => Below w.heap.size w W /\ W.heap[kb]? = some (.cells (statX re U 0 0 true []).toArray 207) /\ W.heap[pb]? = some (.cells [.int .u32 m, .int .i64 36, .int .u32 l, .int .u32 U, .int .u32 G, .int .u64 0].toArray 359)) ⟨hb3.setCell (p := ⟨kb, 7, none⟩) (by rw [HKB.out]; exact Nat.le_refl _) _, statX_set w3 kb 7 _ _ hA3, (heap_setCell_other w3 ⟨kb, 7, none⟩ pb _ (fun e => hkp e.symm)).trans hP3⟩ (fun w4 h4 => ?_)
      clear s1 s2 x3 hb3 hA3 hP3
      obtain ⟨hb4, hA4, hP4⟩ := h4
      have x3 := ent_cell hP4 4 _ rfl
      have s1 := ent_cell hA4 8 _ rfl; have s2 := ent_frozen hA4 8
      go_upto_region 11 with (fail)
      refine genW (F := fun W => Below w.heap.size w W /\ W.heap[kb]? = some (.cells (statX re U G 0 true []).toArray 207) /\ W.heap[pb]? = some (.cells [.int .u32 m, .int .i64 36, .int .u32 l, .int .u32 U, .int .u32 G, .int .u64 0].toArray 359)) ⟨hb4.setCell (p := ⟨kb, 8, none⟩) (by rw [HKB.out]; exact Nat.le_refl _) _, statX_set w4 kb 8 _ _ hA4, (heap_setCell_other w4 ⟨kb, 8, none⟩ pb _ (fun e => hkp e.symm)).trans hP4⟩ (fun w5 h5 => ?_)
      clear s1 s2 x3 hb4 hA4 hP4
      obtain ⟨hb5, hA5, hP5⟩ := h5
      have x3 := ent_cell hP5 2 _ rfl
      have s1 := ent_cell hA5 9 _ rfl; have s2 := ent_frozen hA5 9
      go_upto_region 12 with (fail)
      refine genW (F := fun W => Below w.heap.size w W /\ W.heap[kb]? = some (.cells (statX re U G l true []).toArray 207) /\ W.heap[pb]? = some (.cells [.int .u32 m, .int .i64 36, .int .u32 l, .int .u32 U, .int .u32 G, .int .u64 0].toArray 359)) ⟨hb5.setCell (p := ⟨kb, 9, none⟩) (by rw [HKB.out]; exact Nat.le_refl _) _, statX_set w5 kb 9 _ _ hA5, (heap_setCell_other w5 ⟨kb, 9, none⟩ pb _ (fun e => hkp e.symm)).trans hP5⟩ (fun w6 h6 => ?_)
      clear s1 s2 x3 hb5 hA5 hP5
      obtain ⟨hb6, hA6, hP6⟩ := h6
      have x3 := ent_cell hP6 5 _ rfl
      have s1 := ent_cell hA6 10 _ rfl; have s2 := ent_frozen hA6 10
      go_wp2
      go_roundw
      case rel => exact ⟨1, by omega, rfl, hb6.setCell (p := ⟨kb, 10, none⟩) (by rw [HKB.out]; exact Nat.le_refl _) _, statX_set w6 kb 10 _ _ hA6⟩
      case measure => simp [intOf]; omega
    . have c0 := (hbr.cell (p := ⟨g, 1, none⟩) hg).trans C1.out
      have q1 := fun v w => as359_no 369 v w (by simp [TL]) (by decide)
      have q2 := fun v w => as362_no 369 v w (by simp [TL]) (by decide)
      have q3 := fun v w => as366_no 369 v w (by simp [TL]) (by decide)
      have q4 := as369
      have q5 := fun v w => as370_no 369 v w (.inr rfl)
      have q6 := fun v w => as371_no 369 v w (.inr rfl)
      have q7 := fun v w => as372_no' 369 v w (.inr rfl)
      have q8 := fun v w => as374_no 369 v w (.inr rfl)
      have q9 := fun v w => as376_no 369 v w (.inr rfl)
      have hA : wr.heap[kb]? = some (.cells (statX re U G l true []).toArray 207) := hK.out
      have s1 := ent_cell hA 12 _ rfl; have s2 := ent_frozen hA 12
      have HA := Lib.hid hA
      clear hA
      go_wp2
      go_roundw
      case rel => exact ⟨2, by omega, rfl, hbr.setCell (p := ⟨kb, 12, none⟩) (by rw [HKB.out]; exact Nat.le_refl _) _, statX_set wr kb 12 _ _ HA.out⟩
      case measure => simp [intOf]; omega
    . have c0 := (hbr.cell (p := ⟨g, 2, none⟩) hg).trans C2.out
      have q1 := fun v w => as359_no 366 v w (by simp [TL]) (by decide)
      have q2 := fun v w => as362_no 366 v w (by simp [TL]) (by decide)
      have q3 := as366
      have q4 := as369_no
      have q5 := fun v w => as370_no 366 v w (.inl rfl)
      have q6 := fun v w => as371_no 366 v w (.inl rfl)
      have q7 := fun v w => as372_no' 366 v w (.inl rfl)
      have q8 := fun v w => as374_no 366 v w (.inl rfl)
      have q9 := fun v w => as376_no 366 v w (.inl rfl)
      have hA : wr.heap[kb]? = some (.cells (statX re U G l true []).toArray 207) := hK.out
      have s1 := ent_cell hA 12 _ rfl; have s2 := ent_frozen hA 12
      have HA := Lib.hid hA
      clear hA
      go_wp2
      go_roundw
      case rel => exact ⟨3, by omega, rfl, hbr.setCell (p := ⟨kb, 12, none⟩) (by rw [HKB.out]; exact Nat.le_refl _) _, statX_set wr kb 12 _ _ HA.out⟩
      case measure => simp [intOf]; omega
    . obtain ⟨hN4, c3⟩ : N = 4 /\ w.cell? ⟨g, 3, none⟩ = some (.iface 362 (.agg #[.bool false, .string (ofL T)])) := by
       rcases H3.out with ⟨h, _⟩ | h
       . omega
       . exact h
      have c0 := (hbr.cell (p := ⟨g, 3, none⟩) hg).trans c3
      have q1 := fun v w => as359_no 362 v w (by simp [TL]) (by decide)
      have q2 := as362
      have HN4 := Lib.hid hN4
      clear c3 hN4
      go_upto_region 15 with (first
       | (refine atStore 362 ?_; go_must (refine wpList_storeNew rfl 362 _ _ rfl _ #[.bool false, .string (ofL T)] _ _ rfl rfl (by kernel_rfl) (by rfl) (by rfl) ?_)))
      refine genW (F := fun W => Below w.heap.size w W /\ W.heap[kb]? = some (.cells (statX re U G l true []).toArray 207) /\ W.heap[wr.heap.size]? = some (.cells [.bool false, .string (ofL T)].toArray 362)) ⟨hbr.alloc hbr.size _, (heap_alloc_old wr _ hkbl).trans hK.out, heap_alloc_new wr _⟩ (fun w2 h2 => ?_)
      obtain ⟨pb, hpb⟩ : ∃ pb, wr.heap.size = pb := ⟨_, rfl⟩
      rw [hpb] at h2 hkbl ⊢
      have hkp : kb ≠ pb := by omega
      have HBR := Lib.hid hbr
      clear hbr hK c0 q1 hpb
      obtain ⟨hb2, hA2, hP2⟩ := h2
      have s1 := ent_cell hA2 12 _ rfl; have s2 := ent_frozen hA2 12
      go_upto_region 16 with (fail)
      refine genW (F := fun W => Below w.heap.size w W /\ W.heap[kb]? = some (.cells (statX re U G l true []).toArray 207) /\ W.heap[pb]? = some (.cells [.bool false, .string (ofL T)].toArray 362)) ⟨hb2.setCell (p := ⟨kb, 12, none⟩) (by rw [HKB.out]; exact Nat.le_refl _) _, statX_set w2 kb 12 _ _ hA2, (heap_setCell_other w2 ⟨kb, 12, none⟩ pb _ (fun e => hkp e.symm)).trans hP2⟩ (fun w3 h3 => ?_)
      clear s1 s2 hb2 hA2 hP2
      obtain ⟨hb3, hA3, hP3⟩ := h3
      have x3 := ent_cell hP3 0 _ rfl
      have x4 := ent_cell hP3 1 _ rfl
      have s1 := ent_cell hA3 11 _ rfl; have s2 := ent_frozen hA3 11
      go_wp2
      go_roundw
      case rel => exact ⟨4, by rw [HN4.out]; exact Nat.le_refl _, rfl, hb3.setCell (p := ⟨kb, 11, none⟩) (by rw [HKB.out]; exact Nat.le_refl _) _, statX_set w3 kb 11 _ _ hA3⟩
      case measure => simp [intOf]; omega
  . have hke : k = N := by omega
    subst hke
    go_wp2
    go_ret
    refine ⟨kb, l, rfl, by rw [HKB.out]; exact Nat.le_refl _, ?_, hbr⟩
    have hA := hK.out
    rcases H3.out with ⟨h, hT⟩ | ⟨h, _⟩
    . rw [if_neg (by omega), if_pos (by omega)] at hA
      rw [hT]; exact hA
    . rw [if_neg (by omega), if_neg (by omega)] at hA
      exact hA
theorem sysX_any (w : World) (b : Nat) (f : File) (x : RX) (fs : Value) (h : EntX w b x.r true x.fo fs) (ht : Told f x) : Calls Tryz.prog 190 #[PB b] w fun e w' => ∃ k l, e = .returned (.iface 205 (PB k)) /\ w.heap.size <= k /\ w'.heap[k]? = some (.cells (statX x.r.e f.uid f.gid l true f.target.data.toList).toArray 207) /\ Below w.heap.size w w' := by
 go_enter Tryz.func190, Tryz.ntmps190
 go_wp2_with (go_at_call 192; refine (statTX_any _ b f x fs h ht).mono ?_; rintro e w2 ⟨k, l, rfl, hk, hh, hb⟩)
 go_ret
 exact ⟨k, l, rfl, hk, hh, hb⟩
theorem mode_facts : ∀ p < 512, ∀ k ∈ [0, 134217728, 2147483648], ((k ||| p) &&& 511) = p /\ ((k ||| p) &&& 8388608) = 0 /\ ((k ||| p) &&& 4194304) = 0 /\ ((k ||| p) &&& 1048576) = 0 /\ ((k ||| p) &&& 134217728) = (if k = 134217728 then 134217728 else 0) /\ ((k ||| p) &&& 2401763328) = k /\ (k ||| p) < 4294967296 := by decide +kernel
def isLink (f : File) : Bool := !f.target.data.toList.isEmpty
theorem mode_kinds (f : File) (hp : f.perm < 512) (hd : f.dir = true -> f.target.data.toList = []) : ∃ m k z, goMode f = m /\ m < 4294967296 /\ bits .and .u32 (m : Int) 511 = (f.perm : Int) /\ bits .and .u32 (m : Int) 8388608 = 0 /\ bits .and .u32 (m : Int) 4194304 = 0 /\ bits .and .u32 (m : Int) 1048576 = 0 /\ bits .and .u32 (m : Int) 134217728 = (z : Int) /\ bits .and .u32 (m : Int) 2401763328 = (k : Int) /\ ((f.dir = true /\ isLink f = false /\ k = 2147483648 /\ z = 0) \/ (f.dir = false /\ isLink f = true /\ k = 134217728 /\ z = 134217728) \/ (f.dir = false /\ isLink f = false /\ k = 0 /\ z = 0)) := by
 have key : ∀ k, k ∈ [0, 134217728, 2147483648] -> goKind f = k -> ∃ m, goMode f = m /\ m < 4294967296 /\ bits .and .u32 (m : Int) 511 = (f.perm : Int) /\ bits .and .u32 (m : Int) 8388608 = 0 /\ bits .and .u32 (m : Int) 4194304 = 0 /\ bits .and .u32 (m : Int) 1048576 = 0 /\ bits .and .u32 (m : Int) 134217728 = ((if k = 134217728 then 134217728 else 0 : Nat) : Int) /\ bits .and .u32 (m : Int) 2401763328 = (k : Int) := by
  intro k hk hg
  obtain ⟨h1, h2, h3, h4, h5, h6, h7⟩ := mode_facts f.perm hp k hk
  have e : goMode f = k ||| f.perm := by unfold goMode; rw [hg]
  exact ⟨_, e, h7, and_fact _ _ _ h7 (by decide) h1, and_fact _ _ 0 h7 (by decide) h2, and_fact _ _ 0 h7 (by decide) h3, and_fact _ _ 0 h7 (by decide) h4, and_fact _ _ _ h7 (by decide) h5, and_fact _ _ _ h7 (by decide) h6⟩
 cases h1 : f.dir with
 | true =>
   obtain ⟨m, a1, a2, a3, a4, a5, a6, a7, a8⟩ := key 2147483648 (by simp) (by unfold goKind; rw [if_pos h1])
   exact ⟨m, 2147483648, 0, a1, a2, a3, a4, a5, a6, a7, a8, .inl ⟨rfl, by unfold isLink; rw [hd h1]; rfl, rfl, rfl⟩⟩
 | false =>
   cases h2 : f.target.data.toList.isEmpty with
   | true =>
     obtain ⟨m, a1, a2, a3, a4, a5, a6, a7, a8⟩ := key 0 (by simp) (by unfold goKind; rw [if_neg (by rw [h1]; simp), Lib.toList_data, if_pos h2])
     exact ⟨m, 0, 0, a1, a2, a3, a4, a5, a6, a7, a8, .inr (.inr ⟨rfl, by unfold isLink; rw [h2]; rfl, rfl, rfl⟩)⟩
   | false =>
     obtain ⟨m, a1, a2, a3, a4, a5, a6, a7, a8⟩ := key 134217728 (by simp) (by unfold goKind; rw [if_neg (by rw [h1]; simp), Lib.toList_data, if_neg (by rw [h2]; simp)])
     exact ⟨m, 134217728, 134217728, a1, a2, a3, a4, a5, a6, a7, a8, .inr (.inl ⟨rfl, by unfold isLink; rw [h2]; rfl, rfl, rfl⟩)⟩
theorem bitsX_any (m p : Nat) (w : World) (h1 : bits .and .u32 (m : Int) 511 = (p : Int)) (h2 : bits .and .u32 (m : Int) 8388608 = 0) (h3 : bits .and .u32 (m : Int) 4194304 = 0) (h4 : bits .and .u32 (m : Int) 1048576 = 0) : Calls Tryz.prog 91 #[.int .u32 m] w fun e w' => e = .returned (.int .u32 p) /\ w' = w := by
 go_enter Tryz.func91, Tryz.ntmps91
 go_wp2
 go_ret
 exact ⟨rfl, rfl⟩
theorem regularX_any (m : Nat) (w : World) (h : bits .and .u32 (m : Int) 2401763328 = 0) : Calls Tryz.prog 93 #[.int .u32 m] w fun e w' => e = .returned (.bool true) /\ w' = w := by
 go_enter Tryz.func93, Tryz.ntmps93
 go_wp2
 go_ret
 exact ⟨rfl, rfl⟩
theorem cell_set_o (w : World) {k L : Nat} (h : k ≠ L) (i j : Nat) (v : Value) : (w.setCell ⟨L, j, none⟩ v).cell? ⟨k, i, none⟩ = w.cell? ⟨k, i, none⟩ := by
 simp only [World.cell?, heap_setCell_other w ⟨L, j, none⟩ k v h]
theorem drew_cell (w : World) (p : Addr) : w.drew.cell? p = w.cell? p := rfl
def leafX (path : ByteArray) (nm : List UInt8) (f : File) (s l : Nat) : List Value := [.string path, SV nm, .bool f.dir, .bool (isLink f), .bool false, .int .u32 f.perm, .int .i64 s, .int .i64 f.time, .int .u32 f.uid, .int .u32 f.gid, .int .u32 l, .int .u32 0, .string (ofL f.target.data.toList), .string ⟨#[]⟩, .string ⟨#[]⟩]
theorem leafX_any (path : ByteArray) (w : World) (b F M D : Nat) (img : List UInt8) (f : File) (x : RX) (h : EntX w b x.r true x.fo (PB F)) (hF : FsR w F M D true img) (ht : Told f x) (hs : x.r.s < 4294967296) (hdt : f.dir = true -> f.target.data.toList = []) :
 Calls Tryz.prog 72 #[.string path, .iface 116 (PB b)] w fun e w' => ∃ l, e = .returned (.agg (leafX path x.nm f x.r.s l).toArray) /\ Below w.heap.size w w' := by
 have q205 := as205
 have m1 := method_Mode ⟨b, 0, none⟩
 have m2 := method_Name ⟨b, 0, none⟩
 have m3 := method_IsDir ⟨b, 0, none⟩
 have m4 := method_Size ⟨b, 0, none⟩
 have m5 := method_ModTime ⟨b, 0, none⟩
 have m6 := method_Sys ⟨b, 0, none⟩
 have hbl := h.lt
 have KE' := Lib.hid (fun (W : World) (hW : Below w.heap.size w W) => h.later hW)
 have KF' := Lib.hid (fun (W : World) (hW : Below w.heap.size w W) => hF.later hW)
 have HT := Lib.hid ht
 have hxd := ht.d
 obtain ⟨m, kk, z, hm, hml, b1, b2, b3, b4, b5, b6, hcase⟩ := mode_kinds f ht.perm hdt
 have B91 := Lib.hid (fun W => bitsX_any m f.perm W b1 b2 b3 b4)
 have B93 := Lib.hid (fun W (h : kk = 0) => regularX_any m W (by rw [b6, h]))
 have HM := Lib.hid hm
 have hw0 : wrap64 (f.time + 62135596800 - 62135596800) = f.time := by
  have := ht.t0; have := ht.t1
  rw [Int.add_sub_cancel]; unfold wrap64; omega
 have HW0 := Lib.hid hw0
 clear h hF ht b1 b2 b3 b4 b6 hm hw0
 have G39 : ∀ (W : World) (L j : Nat) (cs : List Value) (v : Value), W.heap[L]? = some (.cells cs.toArray 39) -> (W.setCell ⟨L, j, none⟩ v).heap[L]? = some (.cells (cs.set j v).toArray 39) := by
  intro W L j cs v hh
  have := heap_setCell_same W L j _ 39 v hh
  rw [this]
  congr 2
  apply Array.ext'
  simp
 have HG39 := Lib.hid G39
 clear G39
 have HCASE := Lib.hid hcase
 rcases hcase with ⟨hfd, hlk, hk0, hz0⟩ | ⟨hfd, hlk, hk0, hz0⟩ | ⟨hfd, hlk, hk0, hz0⟩
 all_goals
  have HXD := Lib.hid (hxd.trans hfd)
  have HFD := Lib.hid hfd
  have HLK := Lib.hid hlk
  have HK0 := Lib.hid hk0
  rw [hz0] at b5
  clear hxd hfd hlk hk0 hz0
  go_enter Tryz.func72, Tryz.ntmps72
  go_upto_region 7 with (first
   | (go_at_call 190; refine (sysX_any _ b f x _ (KE'.out _ (hw8.alloc hw8.size _)) HT.out).mono ?_; rintro e w9 ⟨k, l, rfl, hk, hhk, hb9⟩; have hL := (hb9.block w7.heap.size (by show w7.heap.size < (w7.heap.push _).size; simp)).trans (heap_alloc_new w7 _))
   | (go_at_call 93; refine (B93.out _ HK0.out).mono ?_; rintro e w8' ⟨rfl, rfl⟩)
   | (go_at_call 92; refine (unix_any _ _ _ _).mono ?_; rintro e w7 ⟨rfl, hb7⟩; rw [HW0.out]; have hw8 := hw7.trans (hb7.mono hw7.size))
   | (go_at_call 187; refine (modTimeX_any _ b f x _ (KE'.out _ hw2) HT.out).mono ?_; rintro e w6 ⟨a, rfl, hb6⟩; have hw7 := hw2.trans (hb6.mono hw2.size))
   | (go_at_call 67; refine (sizeX_any _ b x _ (KE'.out _ hw2) hs).mono ?_; rintro e w5 ⟨rfl, rfl⟩)
   | (go_at_call 91; refine (B91.out _).mono ?_; rintro e w4 ⟨rfl, rfl⟩)
   | (go_at_call 90; refine (isDirX_any _ b x _ (KE'.out _ hw2)).mono ?_; rintro e w3 ⟨rfl, rfl⟩; rw [HXD.out])
   | (go_at_call 89; refine (nameX_any _ b F M D img f x (KE'.out _ hw1) (KF'.out _ hw1) HT.out).mono ?_; rintro e w2 ⟨rfl, hb2⟩; have hw2 := hw1.trans (hb2.mono hw1.size))
   | (go_at_call 188; refine (modeX_any _ b f x _ (KE'.out _ ((Below.refl _ _).alloc (Nat.le_refl _) _)) HT.out).mono ?_; rintro e w1 ⟨rfl, hb1⟩; rw [HM.out]; have hw1 := ((Below.refl _ _).alloc (Nat.le_refl _) _).trans (hb1.mono (by simp))))
  obtain ⟨L, hLe⟩ : ∃ L, L = w7.heap.size := ⟨_, rfl⟩
  have hkL : k ≠ L := by rw [hLe]; have := hk; simp at this; omega
  rw [<- hLe] at hL ⊢
  have HB9 := Lib.hid hb9; have HLE := Lib.hid hLe; have HW8 := Lib.hid hw8
  have hsz1 : w.heap.size < w1.heap.size := by have := hb1.size; simp at this; omega
  have hsz2 := Nat.lt_of_lt_of_le hsz1 hb2.size
  have hsz6 := Nat.lt_of_lt_of_le hsz2 hb6.size
  have hsz7 := Nat.lt_of_lt_of_le hsz6 hb7.size
  have hRL : w.heap.size ≠ L := by rw [hLe]; omega
  have r1 := (hb1.block w.heap.size (by simp)).trans (heap_alloc_new w _)
  have r7 := (hb7.block w.heap.size hsz6).trans ((hb6.block w.heap.size hsz2).trans ((hb2.block w.heap.size hsz1).trans r1))
  have r9 := (hb9.block w.heap.size (by simp; omega)).trans ((heap_alloc_old w7 _ hsz7).trans r7)
  have hb09 : Below w.heap.size w w9 := (hw8.alloc hw8.size _).trans (hb9.mono (by have := hw8.size; simp; omega))
  have hLw : w.heap.size <= L := by rw [hLe]; exact hw8.size
  clear r1 r7 hsz1 hsz2 hsz6 hsz7 hb9 hk hLe hb6 hb7 hb1 hb2 hw1 hw2 hw7 hw8 m1 m2 m3 m4 m5 m6 q205
  have l8 := ent_cell hL 8 _ rfl
  have l9 := ent_cell hL 9 _ rfl
  have l10 := ent_cell hL 10 _ rfl
  have l11 := ent_cell hL 11 _ rfl
  have l12 := ent_cell hL 12 _ rfl
  have fr := fun j => ent_frozen hL j
  have k7 := ent_cell hhk 7 _ rfl; have k8 := ent_cell hhk 8 _ rfl; have k9 := ent_cell hhk 9 _ rfl; have k10 := ent_cell hhk 10 _ rfl; have k11 := ent_cell hhk 11 _ rfl
  have HHL := Lib.hid hL
  clear hL hhk
  obtain ⟨T, hT⟩ : ∃ T, f.target.data.toList = T := ⟨_, rfl⟩
  obtain ⟨U, hU⟩ : ∃ U, f.uid = U := ⟨_, rfl⟩
  obtain ⟨G, hG⟩ : ∃ G, f.gid = G := ⟨_, rfl⟩
  rw [hU] at k7; rw [hG] at k8; rw [hT] at k11
  have HTUG := Lib.hid (And.intro hT (And.intro hU hG))
  clear hT hU hG
  go_region_held3 (fun W => W.cell? ⟨k, 7, none⟩ = some (.int .u32 U) /\ W.cell? ⟨k, 8, none⟩ = some (.int .u32 G) /\ W.cell? ⟨k, 9, none⟩ = some (.int .u32 l) /\ W.cell? ⟨k, 10, none⟩ = some (.int .u32 0) /\ W.cell? ⟨k, 11, none⟩ = some (.string (ofL T))) (first | (simp only [drew_cell, cell_set_o _ hkL]; with_reducible exact ⟨k7, k8, k9, k10, k11⟩) | (with_reducible exact ⟨k7, k8, k9, k10, k11⟩) | go_keep) (fail)
  go_upto_region 11 with (fail)
  refine genW (F := fun W => Below w.heap.size w W /\ W.heap[L]? = some (.cells (leafX path x.nm f x.r.s l).toArray 39) /\ W.heap[w.heap.size]? = w9.heap[w.heap.size]?) ?_ (fun W h => ?_)
  . have c1 := HG39.out _ L 8 _ (.int .u32 U) HHL.out
    have c2 := HG39.out _ L 9 _ (.int .u32 G) c1
    have c3 := HG39.out _ L 10 _ (.int .u32 l) c2
    have c4 := HG39.out _ L 11 _ (.int .u32 0) c3
    have c5 := HG39.out _ L 12 _ (.string (ofL T)) c4
    obtain ⟨hT, hU, hG⟩ := HTUG.out
    refine ⟨((((((hb09.setCell (p := ⟨L, 8, none⟩) hLw _).setCell (p := ⟨L, 9, none⟩) hLw _).setCell (p := ⟨L, 10, none⟩) hLw _).setCell (p := ⟨L, 11, none⟩) hLw _).setCell (p := ⟨L, 12, none⟩) hLw _).drew), ?_, ?_⟩
    . unfold leafX; rw [HFD.out, HLK.out, hT, hU, hG]; exact c5
    . refine (heap_setCell_other _ ⟨L, 12, none⟩ _ _ hRL).trans ((heap_setCell_other _ ⟨L, 11, none⟩ _ _ hRL).trans ((heap_setCell_other _ ⟨L, 10, none⟩ _ _ hRL).trans ((heap_setCell_other _ ⟨L, 9, none⟩ _ _ hRL).trans (heap_setCell_other _ ⟨L, 8, none⟩ _ _ hRL))))
  . obtain ⟨hbW, hLW, hRW⟩ := h
    have hRW := hRW.trans r9
    clear k7 k8 k9 k10 k11 l8 l9 l10 l11 l12 fr hb09 r9
    unfold leafX at hLW
    go_wp2_with (first
     | (refine atStore 39 ?_; refine wpList_storeB rfl 39 _ _ rfl (b := w.heap.size) rfl _ _ 39 rfl hRW (by kernel_rfl) (by rfl) (by rfl) ?_; intro w10 g1 g2 g3 g4)
     | (refine atLoad 39 ?_; refine wpList_loadB rfl 39 _ rfl (b := L) rfl _ 39 hLW (by kernel_rfl) (by kernel_rfl) ?_))
    refine bodyPost_ret (v := .agg _) (results_cell_row rfl _ _ w.heap.size 39 _ (0, 0) _ rfl g1 under39 rfl (by exact info39)) rfl ?_
    exact ⟨l, rfl, hbW.trans (g2 _ (Nat.le_refl _))⟩
end Go.Proofs.YtilgpaeeleknhaaGreatDoor
