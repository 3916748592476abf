/- A part of the proof of laws.FnIsoRock (see the last text). -/
import Derived.Test.YtilgpaeeleknhaaGreatDoorJr37
set_option linter.unusedSimpArgs false
set_option linter.unusedVariables false
set_option maxRecDepth 1000000
set_option maxHeartbeats 8000000
namespace Go.Proofs.YtilgpaeeleknhaaGreatDoor
open Go Go.RowKit
theorem results_tmp4 {fn : Func} {t u v x : Tmp} (h : fn.results = #[.tmp t, .tmp u, .tmp v, .tmp x]) (tmps : Array Value) (P : Program) (w : World) :
 (results fn tmps).run P w = .ok (.tuple #[tmps.getD t undef, tmps.getD u undef, tmps.getD v undef, tmps.getD x undef]) w := by
 simp [results, h]
theorem susp_any (RD M D E : Nat) (img : List UInt8) (r r0 : Rec) (fs : Value) (w : World) (hent : EntAt w RD r fs) (hre : r.e = E) (hm : MemAt w M D img) (hMl : M < w.heap.size) (hDl : D < w.heap.size) (hE : E < 400000) (hlen : img.length <= 1000000000) (hok : r0.Ok) (h34 : r0.bytes.length = 34) (hfit : E * 2048 + 34 <= img.length) (hby : (img.drop (E * 2048)).take 34 = r0.bytes) :
 Calls Tryz.prog 81 #[PB RD, .iface 107 (PB M), .int .i64 2048] w fun e w' => e = .returned (.tuple #[.bool false, .int .u8 0, .slice none 0 0, .nilIface]) /\ Below w.heap.size w w' := by
 have c1 := hent.cells.e
 rw [hre] at c1
 have m1 := method_ReadAt ⟨M, 0, none⟩
 have KM : ∀ W, Below w.heap.size w W -> MemAt W M D img := fun W h => hm.keep h hMl hDl
 have HK := Lib.hid KM; have HBY := Lib.hid hby; have H34 := Lib.hid h34
 have h1 : (img.drop (E * 2048)).take 1 = [34] := by
  have hh := (r0.has hok).b0
  rw [show recLen r0.id.length ([] : List UInt8).length = 34 from (r0.bytes_len hok).symm.trans h34, <- hby, List.getElem?_take, if_pos (by decide)] at hh
  cases hd : img.drop (E * 2048) with
  | nil => rw [hd] at hh; simp at hh
  | cons a t => rw [hd] at hh; simp at hh; subst hh; rfl
 have H1 := Lib.hid h1
 clear hent hm KM hby h34 hre h1
 go_enter Tryz.func81, Tryz.ntmps81
 go_upto_region 10 with (first
  | (go_at_call 185; refine (readAt_z M D w.heap.size w.heap.size 1 (E * 2048) 1 _ img L3 _ (by omega) (HK.out _ hb3) hl3.out hO3 (by decide) (by omega) hlen (by exact hb3.size)).mono ?_; rintro e w4 ⟨rfl, hO4, hb4⟩; rw [H1.out] at hO4; have k0 : w4.cell? ⟨w.heap.size, 0, none⟩ = some (.int .u8 34) := (own_src hO4 rfl).cell 0 _ rfl)
  | (at_make; refine asList rfl fun KK hKK => ?_; refine go_makeN (w0 := w) (.const (.int .i64 1)) (.const (.int .i64 1)) rfl w.heap.size _ _ _ _ 1 1 rfl rfl rfl rfl (Nat.le_refl _) (by omega) (Below.refl _ _) (Nat.le_refl _) ?_; intro w3 L3 hL3 hl3 hO3 hb3 hs3; refine hKK _ _ ?_; clear hKK KK))
 have hbw4 : Below w.heap.size w w4 := hb3.trans hb4
 clear hO4 hO3 hb3 hb4 hs3
 go_upto_region 16 with (first
  | (go_at_call 185; refine (readAt_z M D w.heap.size w4.heap.size 34 (E * 2048) 34 _ img L5 _ (by omega) (HK.out _ hb5) hl5.out hO5 (by decide) hfit hlen (by exact hb5.size)).mono ?_; rintro e w6 ⟨rfl, hO6, hb6⟩; rw [HBY.out] at hO6)
  | (at_make; refine asList rfl fun KK hKK => ?_; refine go_makeN (w0 := w) (.tmp 54) (.tmp 54) rfl w.heap.size _ _ _ _ 34 34 rfl rfl rfl rfl (Nat.le_refl _) (by omega) hbw4 (Nat.le_refl _) ?_; intro w5 L5 hL5 hl5 hO5 hb5 hs5; refine hKK _ _ ?_; clear hKK KK))
 have hbw6 : Below w.heap.size w w6 := hb5.trans hb6
 have hsrc := own_src hO6 H34.out
 have HSRC := Lib.hid hsrc
 clear hsrc hO6 hO5 hb5 hb6 hs5 k0
 go_upto_region 19 with (first
  | (go_at_call 103; refine (pde_any w4.heap.size 0 34 34 w6.heap.size r0 true _ ?h1 ?h2 H34.out (Nat.le_refl _) hok ⟨none, 0, 0, ?h3⟩ ?h4).mono ?_; rotate_right; rintro e w7 ⟨b, rfl, hbs, hE, hb7⟩))
 case h1 => have := HSRC.out.lt; simp; omega
 case h2 =>
  intro j b' hj
  rw [Nat.zero_add]
  exact old_cell _ (HSRC.out.cell j b' hj)
 case h3 => exact blk_cell (heap_alloc_new w6 _) 13 _ rfl
 case h4 => exact blk_cell (heap_alloc_new w6 _) 11 _ rfl
 obtain ⟨X, co, hx⟩ := hE.cells.exts
 have HB7 := Lib.hid hb7
 clear hE hb7
 go_wp2
 refine wp_loop_rounds 1 ?_
 rw [rounds_succ]
 go_wp2
 try simp only [Exit.inBlock, Exit.then]
 refine bodyPost_ret (results_tmp4 rfl _ _ _) rfl ?_
 exact ⟨rfl, (hbw6.alloc hbw6.size _).trans (HB7.out.mono (by have := hbw6.size; simp; omega))⟩
theorem method_Type225 (a : Addr) (w : World) : (method 510 225 (.pointer (some a)) "Type").run Tryz.prog w = .ok (216, .pointer (some a)) w := by kernel_rfl
theorem method_Type147 (a : Addr) (w : World) : (method 510 147 (.pointer (some a)) "Type").run Tryz.prog w = .ok (193, .pointer (some a)) w := by kernel_rfl
theorem under146 : Tryz.prog.underlying 146 = some (.slice 150) := by kernel_rfl
theorem info150 : (Tryz.prog.info? 150).map (fun i => (i.zero.map (·.cells.size), i.size, i.bytes)) = some (some 1, 1, 16) := by kernel_rfl
theorem as147 (v : Value) (w : World) : (Instr.typeAssert (.iface 147 v) 150 147 true).run Tryz.prog w = .ok (.tuple #[v, .bool true]) w := by kernel_rfl
theorem results_tmp3 {fn : Func} {t u v : Tmp} (h : fn.results = #[.tmp t, .tmp u, .tmp v]) (tmps : Array Value) (P : Program) (w : World) :
 (results fn tmps).run P w = .ok (.tuple #[tmps.getD t undef, tmps.getD u undef, tmps.getD v undef]) w := by
 simp [results, h]
theorem validBlk_any (w : World) : Calls Tryz.prog 75 #[.int .i64 2048] w fun e w' => e = .returned .nilIface /\ w' = w := by
 go_enter Tryz.func75, Tryz.ntmps75
 go_wp2
 refine bodyPost_ret (results_tmp rfl _ _ _) rfl ?_
 exact ⟨rfl, rfl⟩
theorem joliet_any (b : Value) (w : World) : Calls Tryz.prog 80 #[.pointer none, b] w fun e w' => e = .returned (.tuple #[.pointer none, .pointer none, .bool false]) /\ w' = w := by
 go_enter Tryz.func80, Tryz.ntmps80
 go_wp2
 refine bodyPost_ret (results_tmp3 rfl _ _ _) rfl ?_
 exact ⟨rfl, rfl⟩
theorem type225 (a : Addr) (w : World) : Calls Tryz.prog 216 #[.pointer (some a)] w fun e w' => e = .returned (.int .u8 255) /\ w' = w := by
 go_enter Tryz.func216, Tryz.ntmps216
 go_wp2
 refine bodyPost_ret (results_tmp rfl _ _ _) rfl ?_
 exact ⟨rfl, rfl⟩
theorem type147 (a : Addr) (w : World) : Calls Tryz.prog 193 #[.pointer (some a)] w fun e w' => e = .returned (.int .u8 1) /\ w' = w := by
 go_enter Tryz.func193, Tryz.ntmps193
 go_wp2
 refine bodyPost_ret (results_tmp rfl _ _ _) rfl ?_
 exact ⟨rfl, rfl⟩
theorem memoryOf_any (s : ByteArray) (w : World) (hs : s.size <= 1000000000) : Calls Tryz.prog 61 #[.string s] w fun e w' => ∃ M D, e = .returned (PB M) /\ MemAt w' M D s.data.toList /\ M < w'.heap.size /\ D < w'.heap.size /\ w.heap.size <= M /\ w.heap.size <= D /\ Below w.heap.size w w' := by
 go_enter Tryz.func61, Tryz.ntmps61
 go_wp2_with (refine atConvert 9 27 ?_; refine asList rfl fun KK hKK => ?_; go_must (refine wp_convF (.tmp 3) rfl s s.size rfl (by omega) rfl ?_); intro c1 w1 hO1 hb1; have HO1 := Lib.hid hO1; refine hKK _ _ ?_; clear hKK KK hO1)
 refine bodyPost_ret (results_tmp rfl _ _ _) rfl ?_
 have hO := HO1.out
 have hl : s.data.toList.length = s.size := by rw [Array.length_toList]; rfl
 obtain ⟨g, cap, e1, h1, h2⟩ := hO.shape
 injection e1 with e1 e2 e3; injection e1 with e1; injection e1 with e1; subst e1; subst e3
 obtain ⟨g', cap', cur, lo, hi, hv, hb, hg, h3, h4, _⟩ := hO
 injection hv with e1 e2 e3
 subst e3
 refine ⟨w1.heap.size, w.heap.size, rfl, ⟨⟨c1, h4, ?_⟩, ?_⟩, by simp, by simp; omega, hb1.size, Nat.le_refl _, hb1.alloc hb1.size _⟩
 . rw [hl]; exact blk_cell (heap_alloc_new w1 _) 0 _ rfl
 . intro j u hu
   have := HO1.out.cells j u hu
   simp only [World.cell?, World.alloc] at this ⊢
   rw [Array.getElem?_push_lt h2]
   rw [Array.getElem?_eq_getElem h2] at this
   exact this
theorem srcO_of {w : World} {D : Nat} {l : List UInt8} (h : Src w D l) : SrcO w D 0 l := ⟨h.lt, fun j b hj => by rw [Nat.zero_add]; exact h.cell j b hj⟩
theorem cell_of_block {w w' : World} {b : Nat} (h : w'.heap[b]? = w.heap[b]?) (k : Nat) : w'.cell? ⟨b, k, none⟩ = w.cell? ⟨b, k, none⟩ := by simp only [World.cell?, h]
theorem pvd_of_blocks {w w' : World} {V RD pt li : Nat} {vol : List UInt8} (h : PvdAt w V RD vol pt li) (e : w'.heap[V]? = w.heap[V]?) : PvdAt w' V RD vol pt li :=
 ⟨(cell_of_block e _).trans h.vol, (cell_of_block e _).trans h.blk, (cell_of_block e _).trans h.pts, (cell_of_block e _).trans h.ptl, (cell_of_block e _).trans h.root⟩
theorem ent_of_blocks {w w' : World} {b : Nat} {r : Rec} {fs : Value} (h : EntAt w b r fs) (e : w'.heap[b]? = w.heap[b]?) : EntAt w' b r fs := by
 obtain ⟨x, a, X, co, ht, h⟩ := h
 exact ⟨x, a, X, co, ht, e.trans h⟩
theorem wrap_u32 (n : Nat) (h : n < 4294967296) : IntKind.u32.wrap (n : Int) = (n : Int) := by
 simp only [IntKind.wrap, IntKind.bits, IntKind.signed, Bool.false_and, Bool.false_eq_true, if_false]; omega
theorem wrap_i64 (n : Nat) (h : n < 4294967296) : IntKind.i64.wrap (n : Int) = (n : Int) := by
 have e : (n : Int) % 18446744073709551616 = n := by omega
 simp only [IntKind.wrap, IntKind.bits, IntKind.signed, Bool.true_and]
 have : (2 : Int) ^ 64 = 18446744073709551616 := by decide
 simp only [this, e]
 rw [if_neg (by simp; omega)]
theorem ent_store {w : World} {b : Nat} {r : Rec} {fs : Value} (h : EntAt w b r fs) : w.cell? ⟨b, 16, none⟩ = some fs /\ w.frozen? ⟨b, 16, none⟩ = false := by
 refine ⟨h.cells.fs, ?_⟩
 obtain ⟨x, a, X, co, ht, h⟩ := h
 simp [World.frozen?, h]
theorem fsw_fin {Z : World} {F M D PT RD g co n : Nat} {img : List UInt8} {ms : List Node} {ds bs : List Nat} {r : Rec} {vs : Value} {V : Nat} {ls : ByteArray} (hm : MemAt Z M D img) (hM : M < Z.heap.size) (hD : D < Z.heap.size) (hMR : M ≠ RD) (hDR : D ≠ RD) (hE : EntAt Z RD r (.pointer none))
 (hPT : Z.heap[PT]? = some (.cells #[.slice (some ⟨g, 0, none⟩) ds.length co] 243)) (hg : g < Z.heap.size) (hgR : g ≠ RD) (hc : ∀ k b, bs[k]? = some b -> Z.cell? ⟨g, k, none⟩ = some (PB b)) (hB : Boxes Z 241 bs (ds.map (ptE ms)))
 (hF : Z.heap[F]? = some (.cells #[.pointer none, .string ⟨#[]⟩, .int .i64 n, .int .i64 0, .iface 107 (PB M), .int .i64 2048, vs, PB V, .pointer none, PB PT, PB RD, .bool false, .int .u8 0, .slice none 0 0, .bool false, .pointer none, .pointer none] 173))
 (hre : r.e = (nodeAt ms 0).extent) (hrs : r.s = (nodeAt ms 0).size) (hV : Z.cell? ⟨V, 1, none⟩ = some (.string ls)) : FsW (Z.setCell ⟨RD, 16, none⟩ (PB F)) F M D PT RD img ms ds := by
 have hVR : V ≠ RD := by rintro rfl; have := hE.cells.e; rw [hV] at this; cases this
 obtain ⟨x, a, X, c2, ht, hE⟩ := hE
 have ho : ∀ k, k ≠ RD -> (Z.setCell ⟨RD, 16, none⟩ (PB F)).heap[k]? = Z.heap[k]? := fun k hk => heap_setCell_other Z ⟨RD, 16, none⟩ k _ hk
 have hcell : ∀ k j, k ≠ RD -> (Z.setCell ⟨RD, 16, none⟩ (PB F)).cell? ⟨k, j, none⟩ = Z.cell? ⟨k, j, none⟩ := fun k j hk => by simp only [World.cell?, ho k hk]
 have hFR : F ≠ RD := by rintro rfl; rw [hF] at hE; injection hE with hE; injection hE with _ hE; exact absurd hE (by decide)
 have hPR : PT ≠ RD := by rintro rfl; rw [hPT] at hE; injection hE with hE; injection hE with _ hE; exact absurd hE (by decide)
 have cF : ∀ j v, (#[Value.pointer none, .string ⟨#[]⟩, .int .i64 n, .int .i64 0, .iface 107 (PB M), .int .i64 2048, vs, PB V, .pointer none, PB PT, PB RD, .bool false, .int .u8 0, .slice none 0 0, .bool false, .pointer none, .pointer none] : Array Value)[j]? = some v -> (Z.setCell ⟨RD, 16, none⟩ (PB F)).cell? ⟨F, j, none⟩ = some v := fun j v h => by
  rw [hcell F j hFR]; simp only [World.cell?, hF]; simpa using h
 have hsz : (Z.setCell ⟨RD, 16, none⟩ (PB F)).heap.size = Z.heap.size := by simp
 refine ⟨⟨cF 5 _ rfl, cF 11 _ rfl, cF 13 _ rfl⟩, by rw [hsz]; exact hM, by rw [hsz]; exact hD, cF 4 _ rfl, ⟨?_, ?_⟩, cF 1 _ rfl, cF 14 _ rfl, cF 9 _ rfl, ⟨bs, g, co, ?_, by rw [hsz]; exact hg, ?_, ?_⟩, cF 10 _ rfl, ⟨r, hre, hrs, x, a, X, c2, ht, ?_⟩, ⟨V, ls, cF 7 _ rfl, (hcell V 1 hVR).trans hV⟩⟩
 . obtain ⟨c, h1, h2⟩ := hm.data
   exact ⟨c, h1, by rw [hcell M 0 hMR]; exact h2⟩
 . intro j u hu; rw [hcell D j hDR]; exact hm.bytes j u hu
 . rw [ho PT hPR]; exact hPT
 . intro k b hk; rw [hcell g k hgR]; exact hc k b hk
 . refine ⟨hB.1, fun k h h' => ?_⟩
   have e := hB.2 k h h'
   rw [ho _ (by intro e2; rw [e2, hE] at e; injection e with e; injection e with _ e; exact absurd e (by decide))]
   exact e
 . have := heap_setCell_same Z RD 16 _ 176 (PB F) hE
   rw [this]; rfl
structure IsoE (img vol : List UInt8) (r : Rec) (pt li : Nat) (ms : List Node) (ds : List Nat) : Prop where
 len : img.length <= 1000000000
 big : 43008 <= img.length
 pvd : PvdHas ((img.drop 32768).take 2048) vol r.bytes pt li
 term : Holds ((img.drop 34816).take 2048) 0 [255, 67, 68, 48, 48, 49, 1]
 ok : r.Ok
 id : r.id.length = 1
 vlen : vol.length <= 32
 ptl : pt = (pathsL ms true ds).length
 pts : 1 <= pt /\ pt <= 30000
 fit : li * 2048 + pt <= img.length
 ptb : (img.drop (li * 2048)).take pt = pathsL ms true ds
 lis : li < 400000
 dl : 1 <= ds.length /\ ds.length <= 100
 did : ∀ d ∈ ds, 1 <= (pathId ms d).length /\ (pathId ms d).length <= 200
 ex : ∀ d, (nodeAt ms d).extent < 400000
 nu : ∀ d, (nodeAt ms d).number < 65536
 re : r.e = (nodeAt ms 0).extent
 rs : r.s = (nodeAt ms 0).size
structure ReadZ (Z : World) (F M D PT RD g co n V : Nat) (img : List UInt8) (ms : List Node) (ds bs : List Nat) (r : Rec) (vs hv : Value) (sus : Bool) (ls : ByteArray) : Prop where
 mem : MemAt Z M D img
 mlt : M < Z.heap.size
 dlt : D < Z.heap.size
 mr : M ≠ RD
 dr : D ≠ RD
 ent : EntAt Z RD r (.pointer none)
 pt : Z.heap[PT]? = some (.cells #[.slice (some ⟨g, 0, none⟩) ds.length co] 243)
 glt : g < Z.heap.size
 gr : g ≠ RD
 row : ∀ k b, bs[k]? = some b -> Z.cell? ⟨g, k, none⟩ = some (PB b)
 box : Boxes Z 241 bs (ds.map (ptE ms))
 fs : Z.heap[F]? = some (.cells #[.pointer none, .string ⟨#[]⟩, .int .i64 n, .int .i64 0, .iface 107 (PB M), .int .i64 2048, vs, PB V, .pointer none, PB PT, PB RD, .bool sus, .int .u8 0, hv, .bool false, .pointer none, .pointer none] 173)
 vol : Z.cell? ⟨V, 1, none⟩ = some (.string ls)
theorem read_gen (M D n pt li : Nat) (img vol : List UInt8) (r : Rec) (ms : List Node) (ds : List Nat) (sus : Bool) (PH : World -> Value -> Prop) (hPH : ∀ W W' v, PH W v -> Below W.heap.size W W' -> PH W' v) (w : World) (hm : MemAt w M D img) (hMl : M < w.heap.size) (hDl : D < w.heap.size) (hn : img.length = n) (hI : IsoE img vol r pt li ms ds)
 (hS : ∀ RD W, Below w.heap.size w W -> EntAt W RD r (.pointer none) -> Calls Tryz.prog 81 #[PB RD, .iface 107 (PB M), .int .i64 2048] W fun e w' => ∃ X q qc, e = .returned (.tuple #[.bool sus, .int .u8 0, .slice X q qc, .nilIface]) /\ PH w' (.slice X q qc) /\ Below W.heap.size W w') :
 Calls Tryz.prog 60 #[.iface 107 (PB M), .int .i64 n, .int .i64 0, .int .i64 2048] w fun e w' => ∃ F PT RD Z g co V bs vs hv ls, e = .returned (.tuple #[PB F, .nilIface]) /\ w' = Z.setCell ⟨RD, 16, none⟩ (PB F) /\ ReadZ Z F M D PT RD g co n V img ms ds bs r vs hv sus ls /\ PH Z hv /\ Below w.heap.size w w' := by
 have KM : ∀ W, Below w.heap.size w W -> MemAt W M D img := fun W h => hm.keep h hMl hDl
 have HK := Lib.hid KM
 have HI := Lib.hid hI
 have HSU := Lib.hid hS
 have HPH := Lib.hid hPH
 clear hS hPH
 have hlen := hI.len
 have hbig := hI.big
 rw [hn] at hlen hbig
 have m1 := method_ReadAt ⟨M, 0, none⟩
 have q1 : (decide ((8796093022208 : Int) < (n : Int))) = false := by simp; omega
 have q2 : (decide ((n : Int) < 38912)) = false := by simp; omega
 have q3 : ((n : Int) == 0) = false := by simp; omega
 clear hm KM
 go_enter Tryz.func60, Tryz.ntmps60
 go_upto_region 11 with (first
  | (go_at_call 75; refine (validBlk_any _).mono ?_; rintro e w2 ⟨rfl, rfl⟩))
 have hl0 : 0 + 32768 <= img.length := by rw [hn]; omega
 have hlen' : img.length <= 1000000000 := by rw [hn]; exact hlen
 go_upto_region 17 with (first
  | (at_make; refine asList rfl fun KK hKK => ?_; go_must (refine go_makeN (w0 := w2) (.const (.int .i64 32768)) (.const (.int .i64 32768)) rfl w2.heap.size _ _ _ _ 32768 32768 rfl rfl (by simp) (by simp) (Nat.le_refl _) (by omega) (Below.refl _ _) (Nat.le_refl _) ?_); intro w3 L3 hL3 hl3 hO3 hb3 hs3; refine hKK _ _ ?_; clear hKK KK)
  | (go_at_call 185; refine (readAt_z M D w2.heap.size w2.heap.size 32768 0 32768 _ img L3 _ (by omega) (HK.out _ hb3) hl3.out hO3 (by decide) hl0 hlen' (by exact hb3.size)).mono ?_; rintro e w4 ⟨rfl, hO4, hb4⟩; have hbw4 : Below w2.heap.size w2 w4 := hb3.trans hb4; clear hO4 hb4))
 clear hO3 hL3 hl3 hb3 hs3
 go_upto_region 23 with (first
  | (at_make; refine asList rfl fun KK hKK => ?_; refine go_makeV under146 info150 (by decide) (.const (.int .i64 0)) (.const (.int .i64 128)) rfl w2.heap.size .i64 .i64 128 rfl rfl (by decide) hbw4.size ?_; intro w5 hO5 hb5 hs5; refine hKK _ _ ?_; clear hKK KK))
 have hbw5 := hbw4.trans hb5
 have HO5 := Lib.hid hO5
 have h45 : w4.heap.size < w5.heap.size := by omega
 have HTP := Lib.hid hI.pvd
 have q147 := as147
 clear hO5 hb5 hs5 hbw4
 have l16 : 32768 + 2048 <= img.length := by rw [hn]; omega
 have l17 : 34816 + 2048 <= img.length := by rw [hn]; omega
 have hL16 : ((img.drop 32768).take 2048).length = 2048 := by rw [List.length_take, List.length_drop]; omega
 have hL17 : ((img.drop 34816).take 2048).length = 2048 := by rw [List.length_take, List.length_drop]; omega
 have H16 := Lib.hid hL16
 have H17 := Lib.hid hL17
 clear hL16 hL17
 have hptl : pt < 4294967296 := by have := hI.pts; omega
 have hlil : li < 4294967296 := by have := hI.lis; omega
 have hok := hI.ok
 have hid := hI.id
 have hvl := hI.vlen
 clear hI
 refine wp_loop_rounds 3 ?_
 rw [rounds_succ]
 go_upto_region 34 with (first
  | (go_at_call 77; go_must (refine (volDesc_pvd w5.heap.size pt li _ vol r _ (srcO_of (own_src hO7 H16.out)) HTP.out hok hid hptl hlil hvl).mono ?_); rintro e w8 ⟨V, RD, rfl, hPV, hER, hB1, hB2, hb8⟩; have mT := method_Type147 ⟨V, 0, none⟩; have hc8 : Below w5.heap.size w5 w8 := hc7.trans (hb8.mono hc7.size))
  | (go_at_call 185; go_must (refine (readAt_z M D w5.heap.size w5.heap.size 2048 32768 2048 _ img L6 _ (by omega) (HK.out _ (hbw5.trans (hb6.mono hbw5.size))) hl6.out hO6 (by decide) l16 hlen' (by exact hb6.size)).mono ?_); rintro e w7 ⟨rfl, hO7, hb7⟩; have hc7 : Below w5.heap.size w5 w7 := hb6.trans hb7)
  | (at_make; refine asList rfl fun KK hKK => ?_; go_must (refine go_makeN (w0 := w5) (.const (.int .i64 2048)) (.const (.int .i64 2048)) rfl w5.heap.size _ _ _ _ 2048 2048 rfl rfl (by simp) (by simp) (Nat.le_refl _) (by omega) (Below.refl _ _) (Nat.le_refl _) ?_); intro w6 L6 hL6 hl6 hO6 hb6 hs6; refine hKK _ _ ?_; clear hKK KK))
 have hbw8 : Below w2.heap.size w2 w8 := hbw5.trans (hc8.mono hbw5.size)
 clear hO6 hO7 hb6 hb7 hL6 hl6 hs6
 have HPV := Lib.hid hPV
 have HER := Lib.hid hER
 have hRD8 : RD < w8.heap.size := Nat.lt_trans hB2 (cell_lt hPV.blk)
 have hV8 : V < w8.heap.size := cell_lt hPV.blk
 have hRDw : w2.heap.size <= RD := Nat.le_trans hbw5.size (Nat.le_trans hc7.size hB1)
 have hx4 : w4.heap.size < RD := by have := hc7.size; omega
 have hO8 := ownsRow_later HO5.out hc8
 have HO8 := Lib.hid hO8
 clear hPV hER hO8 hb8 hc7 hc8 hB1 HO5
 go_wp2_with (first
  | (go_at_call 193; go_must (refine (type147 _ _).mono ?_); rintro e w9 ⟨rfl, hw9⟩; have hw9' := hw9.symm; subst hw9')
  | (at_builtin; refine asList rfl fun KK hKK => ?_; go_must (refine go_appV (w := w8) under146 info150 (by decide) (.tmp 116) (.tmp 118) rfl w2.heap.size w8.heap.size 0 _ _ [] (.iface 147 (PB V)) rfl rfl HO8.out ((Below.refl _ _).alloc (Nat.le_refl _) _) (by show (w8.heap.push _)[w8.heap.size]? = _; rw [Array.getElem?_push_size]) rfl rfl rfl (by omega) hbw8.size ?_); intro A9 c9 w9 hO9 hb9 hg9; refine hKK _ _ ?_; clear hKK KK))
 have hbw9 := hbw8.trans hb9
 have HO9 := Lib.hid hO9
 clear hO9
 have eV : w9.heap[V]? = w8.heap[V]? := hg9.block _ hV8 (by intro h; have h : some V = some w4.heap.size := h; injection h with h; omega)
 have eR : w9.heap[RD]? = w8.heap[RD]? := hg9.block _ hRD8 (by intro h; have h : some RD = some w4.heap.size := h; injection h with h; omega)
 refine gen_world (F := fun W => Below w2.heap.size w2 W /\ PvdAt W V RD vol pt li /\ EntAt W RD r (.pointer none) /\ W.ownsRow w2.heap.size 150 1 (.slice A9 1 c9) 1 [.iface 147 (PB V)]) ⟨hbw9, pvd_of_blocks HPV.out eV, ent_of_blocks HER.out eR, HO9.out⟩ (fun W h10 => ?_)
 have H10 := Lib.hid h10
 have hbW := h10.1
 clear h10 hbw9 HO9 hg9 hb9 eV eR HPV HER hbw8 HO8 hV8 hRD8 mT
 go_upto_region 34 with (first
  | (go_at_call 77; go_must (refine (volDesc_term W.heap.size _ _ (srcO_of (own_src hP7 H17.out)) HI.out.term).mono ?_); rintro e x8 ⟨T, rfl, hd8⟩; have mT := method_Type225 ⟨T, 0, none⟩; have hc8 : Below W.heap.size W x8 := hc7.trans (hd8.mono hc7.size))
  | (go_at_call 185; go_must (refine (readAt_z M D W.heap.size W.heap.size 2048 34816 2048 _ img N6 _ (by omega) (HK.out _ (hbW.trans (hd6.mono hbW.size))) hn6.out hP6 (by decide) l17 hlen' (by exact hd6.size)).mono ?_); rintro e x7 ⟨rfl, hP7, hd7⟩; have hc7 : Below W.heap.size W x7 := hd6.trans hd7)
  | (at_make; refine asList rfl fun KK hKK => ?_; go_must (refine go_makeN (w0 := W) (.const (.int .i64 2048)) (.const (.int .i64 2048)) rfl W.heap.size _ _ _ _ 2048 2048 rfl rfl (by simp) (by simp) (Nat.le_refl _) (by omega) (Below.refl _ _) (Nat.le_refl _) ?_); intro x6 N6 hN6 hn6 hP6 hd6 hs6; refine hKK _ _ ?_; clear hKK KK))
 have hOx := ownsRow_later H10.out.2.2.2 hc8
 have HOX := Lib.hid hOx
 have hbx : Below w2.heap.size w2 x8 := hbW.trans (hc8.mono hbW.size)
 clear hP6 hP7 hd6 hd7 hN6 hn6 hs6 hd8 hc7 hOx
 go_upto_region 46 with (first
  | (go_at_call 216; go_must (refine (type225 _ _).mono ?_); rintro e x9 ⟨rfl, hw9⟩; have hw9' := hw9.symm; subst hw9'))
 rw [rounds_succ]
 refine gen_world (F := fun X => Below w2.heap.size w2 X /\ PvdAt X V RD vol pt li /\ EntAt X RD r (.pointer none)) ⟨hbx, pvd_of_blocks H10.out.2.1 (hc8.block _ (cell_lt H10.out.2.1.blk)), H10.out.2.2.1.later hc8⟩ (fun X h11 => ?_)
 have hbX := h11.1
 have c5 := h11.2.1.blk
 have c6 := h11.2.1.pts
 have c7 := h11.2.1.ptl
 have c11 := h11.2.1.root
 have H11 := Lib.hid h11
 clear h11 hbW hbx hc8 HOX H10 mT HTP H16 H17 l16 l17 hl0
 have hpt1 := HI.out.pts
 have hpt2 := HI.out.fit
 have hli4 := HI.out.lis
 have zli : IntKind.u32.wrap ((li : Int) * 2048) = ((li * 2048 : Nat) : Int) := by
  rw [show ((li : Int) * 2048) = ((li * 2048 : Nat) : Int) by omega]
  exact wrap_u32 _ (by omega)
 have zl2 : IntKind.i64.wrap ((li * 2048 : Nat) : Int) = ((li * 2048 : Nat) : Int) := by
  exact wrap_i64 _ (by omega)
 go_upto_region 51 with (first
  | (at_make; refine asList rfl fun KK hKK => ?_; go_must (refine go_makeN (w0 := X) (.tmp 151) (.tmp 151) rfl X.heap.size _ _ _ _ pt pt rfl rfl rfl rfl (Nat.le_refl _) (by omega) (Below.refl _ _) (Nat.le_refl _) ?_); intro y1 O1 hO1 ho1 hQ1 hy1 hys1; refine hKK _ _ ?_; clear hKK KK))
 have f5 : y1.cell? ⟨V, 5, none⟩ = some (.int .u16 2048) := (H11.out.2.1).blk |> fun h => (hy1.cell (p := ⟨V, 5, none⟩) (cell_lt h)).trans h
 have f7 : y1.cell? ⟨V, 7, none⟩ = some (.int .u32 li) := (H11.out.2.1).ptl |> fun h => (hy1.cell (p := ⟨V, 7, none⟩) (cell_lt h)).trans h
 clear c5 c6 c7 c11
 go_region_held3 (fun W => W.cell? ⟨V, 5, none⟩ = some (.int .u16 2048) /\ W.cell? ⟨V, 7, none⟩ = some (.int .u32 li)) (first | exact ⟨f5, f7⟩ | go_keep) (fail)
 rw [show IntKind.u32.wrap ((li : Int) * IntKind.u32.wrap 2048) = ((li * 2048 : Nat) : Int) from zli]
 clear f5 f7
 have hfit : li * 2048 + pt <= img.length := hpt2
 have hbX2 : ∀ Y, Below X.heap.size X Y -> Below w2.heap.size w2 Y := fun Y h => hbX.trans (h.mono hbX.size)
 have HBX := Lib.hid hbX2
 have hy1d := hy1.drew
 clear hbX2 hpt2 hy1
 go_upto_region 58 with (first
  | (go_at_call 79; go_must (refine (parsePT_any X.heap.size pt pt ms ds _ (by have := own_src hQ2 (by rw [List.length_take, List.length_drop]; omega); rw [HI.out.ptb] at this; exact this) HI.out.ptl.symm (Nat.le_refl _) hpt1.2 HI.out.dl.2 HI.out.did (fun d => Nat.lt_of_lt_of_le (HI.out.ex d) (by decide)) HI.out.nu).mono ?_); rintro e y3 ⟨PT, bs, A3, co3, rfl, hPT, hRow, hBox, hy3⟩)
  | (go_at_call 185; go_must (refine (readAt_z M D X.heap.size X.heap.size pt (li * 2048) pt _ img O1 _ (by first | exact zl2 | rfl | omega) (HK.out _ (HBX.out _ hy1d)) ho1.out hQ1 (by omega) hfit hlen' (by exact hy1d.size)).mono ?_); rintro e y2 ⟨rfl, hQ2, hy2⟩))
 obtain ⟨g, eA, hg1, hg2, hg3⟩ := row_addr hRow (by have := HI.out.dl; omega)
 subst eA
 have hz2 : Below X.heap.size X y2 := hy1d.trans hy2
 have hz3 : Below X.heap.size X y3 := hz2.trans (hy3.mono hz2.size)
 have hRDX : RD < X.heap.size := H11.out.2.2.lt
 have hgRD : g ≠ RD := by have := hz2.size; omega
 refine gen_world (F := fun Y => Below w2.heap.size w2 Y /\ EntAt Y RD r (.pointer none) /\ Y.heap[PT]? = some (.cells #[.slice (some ⟨g, 0, none⟩) ds.length co3] 243) /\ g < Y.heap.size /\ (∀ k b, bs[k]? = some b -> Y.cell? ⟨g, k, none⟩ = some (PB b)) /\ Boxes Y 241 bs (ds.map (ptE ms)) /\ PvdAt Y V RD vol pt li) ⟨HBX.out _ hz3, H11.out.2.2.later hz3, hPT, hg2, (fun k b hk => hg3 k _ (by rw [List.getElem?_map, hk]; rfl)), hBox, pvd_of_blocks H11.out.2.1 (hz3.block _ (cell_lt H11.out.2.1.blk))⟩ (fun Y h12 => ?_)
 have H12 := Lib.hid h12
 have hbY := h12.1
 clear h12 hPT hRow hBox hg1 hg2 hg3 hz2 hz3 hy1d hy2 hy3 hQ1 hQ2 H11 HBX hbX
 go_upto_region 63 with (first
  | (go_at_call 81; go_must (refine (HSU.out RD _ (hbY) H12.out.2.1).mono ?_); rintro e y5 ⟨qX, qn, qc, rfl, hPy, hb5⟩)
  | (go_at_call 80; go_must (refine (joliet_any _ _).mono ?_); rintro e y4 ⟨rfl, h4⟩; have h4' := h4.symm; subst h4'))
 have hb6 : Below y5.heap.size y5 (y5.alloc (.cells #[.pointer none, .string ⟨#[]⟩, .int .i64 n, .int .i64 0, .iface 107 (PB M), .int .i64 2048, .slice A9 1 c9, PB V, .pointer none, PB PT, PB RD, .bool sus, .int .u8 0, .slice qX qn qc, .bool false, .pointer none, .pointer none] 173)) := (Below.refl _ _).alloc (Nat.le_refl _) _
 have hb56 := hb5.trans (hb6.mono hb5.size)
 have hF6 := heap_alloc_new y5 (.cells #[.pointer none, .string ⟨#[]⟩, .int .i64 n, .int .i64 0, .iface 107 (PB M), .int .i64 2048, .slice A9 1 c9, PB V, .pointer none, PB PT, PB RD, .bool sus, .int .u8 0, .slice qX qn qc, .bool false, .pointer none, .pointer none] 173)
 have hPT6 := (hb56.block _ (Array.getElem?_eq_some_iff.1 H12.out.2.2.1).1).trans H12.out.2.2.1
 refine gen_world (F := fun Z => Below w2.heap.size w2 Z /\ EntAt Z RD r (.pointer none) /\ Z.heap[PT]? = some (.cells #[.slice (some ⟨g, 0, none⟩) ds.length co3] 243) /\ g < Z.heap.size /\ (∀ k b, bs[k]? = some b -> Z.cell? ⟨g, k, none⟩ = some (PB b)) /\ Boxes Z 241 bs (ds.map (ptE ms)) /\ Z.heap[y5.heap.size]? = some (.cells #[.pointer none, .string ⟨#[]⟩, .int .i64 n, .int .i64 0, .iface 107 (PB M), .int .i64 2048, .slice A9 1 c9, PB V, .pointer none, PB PT, PB RD, .bool sus, .int .u8 0, .slice qX qn qc, .bool false, .pointer none, .pointer none] 173) /\ PvdAt Z V RD vol pt li /\ PH Z (.slice qX qn qc))
  ⟨hbY.trans (hb56.mono hbY.size), H12.out.2.1.later hb56, hPT6, Nat.lt_of_lt_of_le H12.out.2.2.2.1 hb56.size, (fun k b hk => (hb56.cell (p := ⟨g, k, none⟩) H12.out.2.2.2.1).trans (H12.out.2.2.2.2.1 k b hk)), H12.out.2.2.2.2.2.1.later hb56, hF6, pvd_of_blocks H12.out.2.2.2.2.2.2 (hb56.block _ (cell_lt H12.out.2.2.2.2.2.2.blk)), HPH.out _ _ _ hPy hb6⟩ (fun Z h13 => ?_)
 have H13 := Lib.hid h13
 obtain ⟨k16, z16⟩ := ent_store h13.2.1
 clear h13 hb6 hb56 hF6 hPT6 H12 hbY hb5 hPy
 go_wp2
 refine bodyPost_ret (v := .tuple #[_, _]) (results_tmp2 rfl _ _ _) rfl ?_
 refine ⟨y5.heap.size, PT, RD, Z, g, co3, V, bs, _, _, _, rfl, rfl, ⟨HK.out _ H13.out.1, Nat.lt_of_lt_of_le hMl H13.out.1.size, Nat.lt_of_lt_of_le hDl H13.out.1.size, by omega, by omega, H13.out.2.1, H13.out.2.2.1, H13.out.2.2.2.1, hgRD, H13.out.2.2.2.2.1, H13.out.2.2.2.2.2.1, H13.out.2.2.2.2.2.2.1, H13.out.2.2.2.2.2.2.2.1.vol⟩, H13.out.2.2.2.2.2.2.2.2, ?_⟩
 exact H13.out.1.setCell (by show w2.heap.size <= RD; exact hRDw) _
structure IsoD (img vol : List UInt8) (r : Rec) (pt li : Nat) (ms : List Node) (ds : List Nat) : Prop extends IsoE img vol r pt li ms ds where
 r0 : ∃ q : Rec, q.Ok /\ q.bytes.length = 34 /\ (nodeAt ms 0).extent * 2048 + 34 <= img.length /\ (img.drop ((nodeAt ms 0).extent * 2048)).take 34 = q.bytes
theorem read_any (M D n pt li : Nat) (img vol : List UInt8) (r : Rec) (ms : List Node) (ds : List Nat) (w : World) (hm : MemAt w M D img) (hMl : M < w.heap.size) (hDl : D < w.heap.size) (hn : img.length = n) (hI : IsoD img vol r pt li ms ds) :
 Calls Tryz.prog 60 #[.iface 107 (PB M), .int .i64 n, .int .i64 0, .int .i64 2048] w fun e w' => ∃ F PT RD, e = .returned (.tuple #[PB F, .nilIface]) /\ FsW w' F M D PT RD img ms ds /\ Below w.heap.size w w' := by
 obtain ⟨q, hq1, hq2, hq3, hq4⟩ := hI.r0
 refine (read_gen M D n pt li img vol r ms ds false (fun _ v => v = .slice none 0 0) (fun _ _ _ h _ => h) w hm hMl hDl hn hI.toIsoE fun RD W hW hE => ?_).mono ?_
 . refine (susp_any RD M D _ img r q _ _ hE hI.re (hm.keep hW hMl hDl) (Nat.lt_of_lt_of_le hMl hW.size) (Nat.lt_of_lt_of_le hDl hW.size) (hI.ex 0) hI.len hq1 hq2 hq3 hq4).mono ?_
   rintro e w' ⟨rfl, hb⟩
   exact ⟨none, 0, 0, rfl, rfl, hb⟩
 . rintro e w' ⟨F, PT, RD, Z, g, co, V, bs, vs, hv, ls, rfl, rfl, h, rfl, hb⟩
   exact ⟨F, PT, RD, rfl, fsw_fin h.mem h.mlt h.dlt h.mr h.dr h.ent h.pt h.glt h.gr h.row h.box h.fs hI.re hI.rs h.vol, hb⟩
end Go.Proofs.YtilgpaeeleknhaaGreatDoor
