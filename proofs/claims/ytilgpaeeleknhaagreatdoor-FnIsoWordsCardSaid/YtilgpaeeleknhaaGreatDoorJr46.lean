/- A part of the proof of laws.FnIsoRock (see the last text). -/
import Derived.Test.YtilgpaeeleknhaaGreatDoorJr45
import Derived.Test.YtilgpaeeleknhaaGreatDoorJr39
set_option linter.unusedSimpArgs false
set_option linter.unusedVariables false
set_option maxRecDepth 1000000
set_option maxHeartbeats 8000000
namespace Go.Proofs.YtilgpaeeleknhaaGreatDoor
open Go Go.RowKit
theorem skip_any (w : World) : Calls Tryz.prog 104 #[.agg #[.int .u8 0]] w fun e w' => e = .returned (.int .u8 0) /\ Below w.heap.size w w' := by
 go_enter Tryz.func104, Tryz.ntmps104
 go_wp2
 go_ret
 exact ⟨rfl, (Below.refl _ _).alloc (Nat.le_refl _) _⟩
theorem extId_any (a b c : ByteArray) (d : Value) (w : World) : Calls Tryz.prog 106 #[.agg #[.string a, .string b, .string c, d]] w fun e w' => e = .returned (.string a) /\ Below w.heap.size w w' := by
 go_enter Tryz.func106, Tryz.ntmps106
 go_wp2
 go_ret
 exact ⟨rfl, (Below.refl _ _).alloc (Nat.le_refl _) _⟩
theorem rrExt_any (w : World) : Calls Tryz.prog 105 #[.string (ofL erId)] w fun e w' => ∃ R, e = .returned (PB R) /\ w'.cell? ⟨R, 4, none⟩ = some (.int .i64 36) /\ Below w.heap.size w w' := by
 have hs : ((ofL erId).toList == [82, 82, 73, 80, 95, 49, 57, 57, 49, 65]) = true := by rw [Lib.toList_data]; rfl
 generalize ofL erId = s at hs ⊢
 go_enter Tryz.func105, Tryz.ntmps105
 go_wp2
 go_ret
 exact ⟨w.heap.size, rfl, blk_cell (heap_alloc_new w _) 4 _ rfl, (Below.refl _ _).alloc (Nat.le_refl _) _⟩
theorem as249 (v : Value) (w : World) : (Instr.typeAssert (.iface 249 v) 247 249 true).run Tryz.prog w = .ok (.tuple #[v, .bool true]) w := by kernel_rfl
theorem as249_331 (v : Value) (w : World) : (Instr.typeAssert (.iface 331 v) 247 249 true).run Tryz.prog w = .ok (.tuple #[.agg #[.int .u8 0], .bool false]) w := by kernel_rfl
theorem as249_253 (v : Value) (w : World) : (Instr.typeAssert (.iface 253 v) 247 249 true).run Tryz.prog w = .ok (.tuple #[.agg #[.int .u8 0], .bool false]) w := by kernel_rfl
theorem as253 (v : Value) (w : World) : (Instr.typeAssert (.iface 253 v) 247 253 true).run Tryz.prog w = .ok (.tuple #[v, .bool true]) w := by kernel_rfl
theorem as253_331 (v : Value) (w : World) : (Instr.typeAssert (.iface 331 v) 247 253 true).run Tryz.prog w = .ok (.tuple #[.agg #[.string ⟨#[]⟩, .string ⟨#[]⟩, .string ⟨#[]⟩, .int .u8 0], .bool false]) w := by kernel_rfl
theorem as253_249 (v : Value) (w : World) : (Instr.typeAssert (.iface 249 v) 247 253 true).run Tryz.prog w = .ok (.tuple #[.agg #[.string ⟨#[]⟩, .string ⟨#[]⟩, .string ⟨#[]⟩, .int .u8 0], .bool false]) w := by kernel_rfl
theorem under166 : Tryz.prog.underlying 166 = some (.slice 267) := by kernel_rfl
theorem info267 : (Tryz.prog.info? 267).map (fun i => (i.zero.map (·.cells.size), i.size, i.bytes)) = some (some 1, 1, 16) := by kernel_rfl
theorem suspX_any (RD M D E n : Nat) (img : List UInt8) (r r0 : Rec) (its : List Item) (f : File) (l : Nat) (t : Int) (fs : Value) (w : World) (hent : EntAt w RD r fs) (hre : r.e = E) (hm : MemAt w M D img) (hMl : M < w.heap.size) (hDl : D < w.heap.size) (hE : E < 400000) (hlen : img.length <= 1000000000) (hok : RokX r0 its) (hct : ContOk img its [.sp, .px f l, .tf t, .er]) (hn : r0.bytes.length = n) (hfit : E * 2048 + n <= img.length) (hby : (img.drop (E * 2048)).take n = r0.bytes) :
 Calls Tryz.prog 81 #[PB RD, .iface 107 (PB M), .int .i64 2048] w fun e w' => ∃ X q qc, e = .returned (.tuple #[.bool true, .int .u8 0, .slice X q qc, .nilIface]) /\ HandV w' (.slice X q qc) true /\ Below w.heap.size w w' := by
 have c1 := hent.cells.e
 rw [hre] at c1
 have m1 := method_ReadAt ⟨M, 0, none⟩
 have KM : ∀ W, Below w.heap.size w W -> MemAt W M D img := fun W h => hm.keep h hMl hDl
 obtain ⟨hl1, hl2, hl3⟩ := hok.len2
 rw [hn] at hl1 hl2 hl3
 have HK := Lib.hid KM; have HBY := Lib.hid hby; have HN := Lib.hid hn; have HOK := Lib.hid hok; have HCT := Lib.hid hct
 have h1 : (img.drop (E * 2048)).take 1 = [u8 n] := by
  have hh := r0.hasX.b0
  rw [<- hl1, <- hby, List.getElem?_take, if_pos (by omega)] at hh
  cases hd : img.drop (E * 2048) with
  | nil => rw [hd] at hh; simp at hh
  | cons a t => rw [hd] at hh; simp at hh; subst hh; rfl
 have H1 := Lib.hid h1
 clear hent hm KM hby hn hre h1 hok hct hl1
 go_enter Tryz.func81, Tryz.ntmps81
 go_upto_region 10 with (first
  | (go_at_call 185; refine (readAt_z M D w.heap.size w.heap.size 1 (E * 2048) 1 _ img L3 _ (by omega) (HK.out _ hb3) hl3.out hO3 (by decide) (by omega) hlen (by exact hb3.size)).mono ?_; rintro e w4 ⟨rfl, hO4, hb4⟩; rw [H1.out] at hO4; have k0 : w4.cell? ⟨w.heap.size, 0, none⟩ = some (.int .u8 n) := (by have := (own_src hO4 rfl).cell 0 _ rfl; rw [bv_u8 n (by omega)] at this; exact this))
  | (at_make; refine asList rfl fun KK hKK => ?_; refine go_makeN (w0 := w) (.const (.int .i64 1)) (.const (.int .i64 1)) rfl w.heap.size _ _ _ _ 1 1 rfl rfl rfl rfl (Nat.le_refl _) (by omega) (Below.refl _ _) (Nat.le_refl _) ?_; intro w3 L3 hL3 hl3 hO3 hb3 hs3; refine hKK _ _ ?_; clear hKK KK))
 have hbw4 : Below w.heap.size w w4 := hb3.trans hb4
 have hn0 : ((n : Int) == 0) = false := by simp; omega
 clear hO4 hO3 hb3 hb4 hs3
 go_upto_region 16 with (first
  | (go_at_call 185; refine (readAt_z M D w.heap.size w4.heap.size n (E * 2048) n _ img L5 _ (by omega) (HK.out _ hb5) hl5.out hO5 (by omega) hfit hlen (by exact hb5.size)).mono ?_; rintro e w6 ⟨rfl, hO6, hb6⟩; rw [HBY.out] at hO6)
  | (at_make; refine asList rfl fun KK hKK => ?_; refine go_makeN (w0 := w) (.tmp 54) (.tmp 54) rfl w.heap.size _ _ _ _ n n rfl rfl rfl rfl (Nat.le_refl _) (by omega) hbw4 (Nat.le_refl _) ?_; intro w5 L5 hL5 hl5 hO5 hb5 hs5; refine hKK _ _ ?_; clear hKK KK))
 have hbw6 : Below w.heap.size w w6 := hb5.trans hb6
 have hsrc := own_src hO6 HN.out
 have HSRC := Lib.hid hsrc
 clear hsrc hO6 hO5 hb5 hb6 hs5 k0 hn0
 go_upto_region 19 with (first
  | (go_at_call 103; refine (pdeX_any w4.heap.size 0 n n w6.heap.size M D r0 false its _ img _ ?h1 HN.out (Nat.le_refl _) HOK.out ?h2 HCT.out).mono ?_; rotate_right; rintro e w7 ⟨b, rfl, hbs, hE, hb7⟩))
 case h1 => exact (srcO_of HSRC.out).later ((Below.refl _ _).alloc (Nat.le_refl _) _)
 case h2 =>
  have hF := heap_alloc_new w6 (.cells #[.pointer none, .string ⟨#[]⟩, .int .i64 0, .int .i64 0, .iface 107 (PB M), .int .i64 2048, .slice none 0 0, .pointer none, .pointer none, .pointer none, .pointer none, .bool true, .int .u8 0, .slice none 0 0, .bool false, .pointer none, .pointer none] 173)
  refine ⟨blk_cell hF 4 _ rfl, blk_cell hF 5 _ rfl, blk_cell hF 11 _ rfl, ⟨_, blk_cell hF 13 _ rfl, rfl⟩, HK.out _ (hbw6.alloc hbw6.size _), ?_, ?_, hlen⟩
  . have := hbw6.size; simp; omega
  . have := hbw6.size; simp; omega
 obtain ⟨X, co, vs, k18, hO, hA⟩ := hE.cells.exts
 have hx : ∀ k, k < 4 -> ∃ v, vs[k]? = some v := fun k hk => ⟨vs[k]'(by rw [<- hA.1]; exact hk), List.getElem?_eq_getElem _⟩
 obtain ⟨v0, hv0⟩ := hx 0 (by decide)
 obtain ⟨v1, hv1⟩ := hx 1 (by decide)
 obtain ⟨v2, hv2⟩ := hx 2 (by decide)
 obtain ⟨v3, hv3⟩ := hx 3 (by decide)
 have i0 : v0 = .iface 249 (.agg #[.int .u8 0]) := hA.2 0 _ _ rfl hv0
 obtain ⟨cs1, i1⟩ : ∃ cs, v1 = .iface 331 (.agg cs) := hA.2 1 _ _ rfl hv1
 obtain ⟨cs2, i2⟩ : ∃ cs, v2 = .iface 331 (.agg cs) := hA.2 2 _ _ rfl hv2
 have i3 : v3 = .iface 253 (.agg #[.string (ofL erId), .string (ofL erText), .string (ofL erSrc), .int .u8 1]) := hA.2 3 _ _ rfl hv3
 subst i0; subst i1; subst i2; subst i3
 obtain ⟨g, rfl, hg0, hgl, hgc⟩ := row_addr hO (Nat.succ_pos _)
 have g0 := hgc 0 _ hv0
 have g1 := hgc 1 _ hv1
 have g2 := hgc 2 _ hv2
 have g3 := hgc 3 _ hv3
 have hb67 : Below w.heap.size w w7 := (hbw6.alloc hbw6.size _).trans (hb7.mono (by have := hbw6.size; simp; omega))
 have HG := Lib.hid (And.intro g0 (And.intro g1 (And.intro g2 g3)))
 have k18 : w7.cell? ⟨b, 18, none⟩ = some (.slice (some ⟨g, 0, none⟩) 4 co) := k18
 clear hE hO hA hx hv0 hv1 hv2 hv3 hgc hb7 hbw6 HSRC hbs g0 g1 g2 g3
 have q0 := as249; have q1 := as249_331; have q2 := as249_253; have q3 := as253; have q4 := as253_331; have q5 := as253_249
 go_wp2_with (fail)
 clear c1 m1
 refine wp_loop_rounds 5 ?_
 rw [rounds_succ]
 have hbc : Below w7.heap.size w7 w7 := Below.refl _ _
 have hgc : ∀ W, Below w7.heap.size w7 W -> ∀ k v, w7.cell? ⟨g, k, none⟩ = some v -> W.cell? ⟨g, k, none⟩ = some v := fun W h k v e => (h.cell (p := ⟨g, k, none⟩) hgl).trans e
 have HGC := Lib.hid hgc
 clear hgc hl2 hl3 hE hfit hlen
 obtain ⟨g0, -⟩ := HG.out
 go_wp2_with (first
  | (go_at_call 104; go_must (refine (skip_any _).mono ?_); rintro e x1 ⟨rfl, hx1⟩))
 refine genW (F := fun W => Below w7.heap.size w7 W) ((((Below.refl _ _).alloc (Nat.le_refl _) _).trans (hx1.mono (by simp))).alloc (Nat.le_trans (by simp) hx1.size) _) (fun y1 hy1 => ?_)
 clear hx1 g0
 try rw [rounds_succ]
 have g1 := HGC.out _ hy1 1 _ HG.out.2.1
 go_wp2_with (fail)
 refine genW (F := fun W => Below w7.heap.size w7 W) ((hy1.alloc hy1.size _).alloc (Nat.le_trans hy1.size (by simp)) _) (fun y2 hy2 => ?_)
 clear hy1 g1
 try rw [rounds_succ]
 have g2 := HGC.out _ hy2 2 _ HG.out.2.2.1
 go_wp2_with (fail)
 refine genW (F := fun W => Below w7.heap.size w7 W) ((hy2.alloc hy2.size _).alloc (Nat.le_trans hy2.size (by simp)) _) (fun y3 hy3 => ?_)
 clear hy2 g2
 try rw [rounds_succ]
 have g3 := HGC.out _ hy3 3 _ HG.out.2.2.2
 go_upto_region 32 with (first
  | (go_at_call 105; go_must (refine (rrExt_any _).mono ?_); rintro e x6 ⟨R, rfl, hR, hx6⟩)
  | (go_at_call 106; go_must (refine (extId_any _ _ _ _ _).mono ?_); rintro e x5 ⟨rfl, hx5⟩))
 have hb6 : Below w7.heap.size w7 x6 := ((((hy3.alloc hy3.size _).alloc (Nat.le_trans hy3.size (by simp)) _).trans (hx5.mono (Nat.le_trans hy3.size (by simp; try omega)))).trans (hx6.mono (by first | exact Nat.le_trans (Nat.le_trans hy3.size (by simp; try omega)) hx5.size)))
 have hRl : R < x6.heap.size := cell_lt hR
 have HR := Lib.hid hR
 clear hx5 hx6 hy3 g3 hR
 go_wp2_with (at_builtin; refine asList rfl fun KK hKK => ?_; go_must (refine go_appV (w := x6) under166 info267 (by decide) (.tmp 114) (.tmp 117) rfl x6.heap.size x6.heap.size 0 none 0 [] (.iface 255 (PB R)) rfl rfl (World.ownsRow_nil x6 x6.heap.size 267 1) ((Below.refl _ _).alloc (Nat.le_refl _) _) (by show (x6.heap.push _)[x6.heap.size]? = _; rw [Array.getElem?_push_size]) rfl rfl rfl (by decide) (Nat.le_refl _) ?_); intro A9 c9 w9 hO9 hb9 hg9; refine hKK _ _ ?_; clear hKK KK)
 obtain ⟨gg, rfl, hgg, hggl, hgc⟩ := row_addr hO9 (by decide)
 have hc0 := hgc 0 _ rfl
 clear hgc hO9 hg9
 rw [rounds_succ]
 go_wp2
 try simp only [Exit.inBlock, Exit.then]
 refine bodyPost_ret (results_tmp4 rfl _ _ _) rfl ?_
 have hR9 : w9.cell? ⟨R, 4, none⟩ = some (.int .i64 36) := (hb9.cell (p := ⟨R, 4, none⟩) hRl).trans HR.out
 exact ⟨some ⟨gg, 0, none⟩, 1, c9, rfl, ⟨gg, c9, R, rfl, hggl, Nat.lt_of_lt_of_le hRl hb9.size, hc0, hR9⟩, hb67.trans ((hb6.trans (hb9.mono hb6.size)).mono hb67.size)⟩
theorem sizeD_any (w : World) (b E S F : Nat) (h : DirAt w b E S F) (hs : S < 4294967296) : Calls Tryz.prog 67 #[PB b] w fun e w' => e = .returned (.int .i64 S) /\ w' = w := by
 have hd := h.s
 go_enter Tryz.func67, Tryz.ntmps67
 go_wp2
 go_ret
 exact ⟨rfl, rfl⟩
theorem cloX_any (F M D Bc n L : Nat) (E : Addr) (p : ByteArray) (img : List UInt8) (w : World) (hW : FsR w F M D true img) (hBc : w.cell? ⟨Bc, 0, none⟩ = some (PB F)) (h0 : 0 < n) (hn : n <= 2000000) (hL : L < 400000) (hfit : L * 2048 + n <= img.length) (hlen : img.length <= 1000000000) (hG : w.cell? ⟨0, 0, none⟩ = some (EofV E))
 (h66 : ∀ W, Below w.heap.size w W -> Calls Tryz.prog 66 #[PB F, .string p] W fun e w' => ∃ X b, e = .returned (.tuple #[.iface 113 (PB X), .nilIface]) /\ w'.heap[X]? = some (.cells (fileC b 0 false).toArray 118) /\ DirAt w' b L n F /\ W.heap.size <= X /\ Below W.heap.size W w') :
 Calls Tryz.prog 65 #[.string p, .int .i64 0, .int .i64 (-1), PB Bc] w fun e w' => e = .returned (.tuple #[.string (ofL ((img.drop (L * 2048)).take n)), .bool true]) /\ Below w.heap.size w w' := by
 have H66 := Lib.hid h66
 have HK := Lib.hid (fun W (h : Below w.heap.size w W) => hW.later h)
 have hFl := hW.lt
 have q113 := as113
 have h0l : 0 < w.heap.size := cell_lt hG
 have hbl : ((img.drop (L * 2048)).take n).length = n := by rw [List.length_take, List.length_drop]; omega
 have HBL := Lib.hid hbl
 have HG := Lib.hid hG
 clear hW h66 hbl hG
 go_enter Tryz.func65, Tryz.ntmps65
 go_upto_region 12 with (first
  | (go_at_call 68; go_must (refine (seek0_any X b _ HX.out).mono ?_); rintro e w4 ⟨rfl, h4⟩; have h4' := h4.symm; subst h4')
  | (go_at_call 67; go_must (refine (sizeD_any _ b L n F HE.out (by omega)).mono ?_); rintro e w3 ⟨rfl, h3⟩; have h3' := h3.symm; subst h3')
  | (go_at_call 66; go_must (refine (H66.out _ (Below.refl _ _)).mono ?_); rintro e w2 ⟨X, b, rfl, hX, hE, hXw, hb2⟩; have HX := Lib.hid hX; have HE := Lib.hid hE; have x0 := ent_cell hX 0 _ rfl; clear hX hE))
 rw [show min (n : Int) 16777216 = (n : Int) from by omega]
 have hX2 : X < w2.heap.size := cell_lt x0
 have hb2' : b < w2.heap.size := HE.out.lt
 go_upto_region 14 with (first
  | (at_make; refine asList rfl fun KK hKK => ?_; go_must (refine go_makeN (w0 := w2) (.tmp 53) (.tmp 53) rfl w2.heap.size _ _ _ _ n n rfl rfl rfl rfl (Nat.le_refl _) (by omega) (Below.refl _ _) (Nat.le_refl _) ?_); intro w5 Lz hLz hlz hO5 hb5 hs5; refine hKK _ _ ?_; clear hKK KK))
 have hb52 : Below w.heap.size w w5 := hb2.trans (hb5.mono hb2.size)
 have hW5 := HK.out _ hb52
 have x5 := (hb5.block X hX2).trans HX.out
 have hE5 := HE.out.keep hb5 hb2'
 have g5 : w5.cell? ⟨0, 0, none⟩ = some (EofV E) := (hb52.cell (p := ⟨0, 0, none⟩) h0l).trans HG.out
 have hF2 : F < w2.heap.size := Nat.lt_of_lt_of_le hFl hb2.size
 have hX0 : 0 < X := Nat.lt_of_lt_of_le h0l hXw
 have HFR : Calls Tryz.prog 69 #[PB X, .slice (some ⟨w2.heap.size, 0, none⟩) n n] w5 fun e w' => e = .returned (.tuple #[.int .i64 n, EofV E]) /\ Own w' w2.heap.size (.slice (some ⟨w2.heap.size, 0, none⟩) n n) ((img.drop (L * 2048)).take n) /\ w'.heap[X]? = some (.cells (fileC b n false).toArray 118) /\ ∀ K, K <= X -> Below K w5 w' :=
  freadX_any F M D X b w2.heap.size n n w2.heap.size L E Lz img w5 hW5 x5 hE5 h0 hn hL hfit hlen hX2 hb2' hF2 hb5.size hlz.out hO5 g5 hX0
 have HFRR := Lib.hid HFR
 have hnB : ((n : Int) == 0) = false := by simp; omega
 clear HFR hW5 x5 hE5 hO5 hlz hLz g5 hs5
 refine wp_loop_rounds 1 ?_
 rw [rounds_succ]
 go_upto_region 17 with (first
  | (go_at_call 69; go_must (refine HFRR.out.mono ?_); rintro e w6 ⟨rfl, hO6, x6, hs6⟩))
 have hb6 : Below w.heap.size w w6 := hb52.trans (hs6 _ hXw)
 have g6 : w6.cell? ⟨0, 0, none⟩ = some (EofV E) := (hb6.cell (p := ⟨0, 0, none⟩) h0l).trans HG.out
 have q214 := eof_eq E w6
 go_upto_region 20 with (fail)
 have hS6 : S65 w X b n w2.heap.size w2.heap.size ((img.drop (L * 2048)).take n) w6 := ⟨hO6, ⟨_, x6⟩, hb6⟩
 have hcv : ∀ W, S65 w X b n w2.heap.size w2.heap.size ((img.drop (L * 2048)).take n) W -> (convert 27 9 (.slice (some ⟨w2.heap.size, 0, none⟩) n n)).run Tryz.prog W = .ok (.string (ofL ((img.drop (L * 2048)).take n))) W := fun W h => conv_own h.1 HBL.out
 have h70 : ∀ W, S65 w X b n w2.heap.size w2.heap.size ((img.drop (L * 2048)).take n) W -> Calls Tryz.prog 70 #[PB X] W fun e w' => e = .returned .nilIface /\ S65 w X b n w2.heap.size w2.heap.size ((img.drop (L * 2048)).take n) w' := fun W h => by
  obtain ⟨cl, h2⟩ := h.2.1
  refine (close_any X b n cl W h2).mono ?_
  rintro e w' ⟨rfl, rfl⟩
  exact ⟨rfl, h.close hXw hX2⟩
 obtain ⟨st, hste⟩ : ∃ st, ofL ((img.drop (L * 2048)).take n) = st := ⟨_, rfl⟩
 generalize hSS : S65 w X b n w2.heap.size w2.heap.size ((img.drop (L * 2048)).take n) = SS at hS6 hcv h70
 rw [hste] at hcv
 have hdr : ∀ W, SS W -> SS W.drew := fun W h => by rw [<- hSS] at h ⊢; exact h.drew
 have HSS := Lib.hid hSS; have H70 := Lib.hid h70; have HDR := Lib.hid hdr; have HCV := Lib.hid hcv; have HSTE := Lib.hid hste
 have hnn : (n : Int) <= (n : Int) := Int.le_refl _
 have hn0 : (0 : Int) <= (n : Int) := by omega
 clear hSS h70 hdr hcv hste hO6 x6 hs6 hb6 g6 q214
 go_region_held3 (fun W => SS W /\ (convert 27 9 (.slice (some ⟨w2.heap.size, 0, none⟩) n n)).run Tryz.prog W = .ok (.string st) W) (first | exact ⟨hS6, HCV.out _ hS6⟩ | exact ⟨HDR.out _ hS6, HCV.out _ (HDR.out _ hS6)⟩ | exact ⟨hSx, HCV.out _ hSx⟩ | go_keep) (first
  | (go_at_call 70; go_must (refine (H70.out _ (by first | assumption | exact HDR.out _ hS6)).mono ?_); rintro e w8 ⟨rfl, hSx⟩))
 have hSx' := hSx
 rw [<- HSS.out] at hSx'
 have HB := Lib.hid hSx'.2.2
 clear hSx' hSx hS6
 go_wp2
 go_ret2
 have h := HSTE.out
 subst h
 exact ⟨rfl, HB.out⟩
theorem clo0X_any (F M D Bc n L : Nat) (E : Addr) (p : ByteArray) (img : List UInt8) (w : World) (hW : FsR w F M D true img) (hBc : w.cell? ⟨Bc, 0, none⟩ = some (PB F)) (h0 : n = 0) (hn : n <= 2000000) (hL : L < 400000) (hfit : L * 2048 + n <= img.length) (hlen : img.length <= 1000000000) (hG : w.cell? ⟨0, 0, none⟩ = some (EofV E))
 (h66 : ∀ W, Below w.heap.size w W -> Calls Tryz.prog 66 #[PB F, .string p] W fun e w' => ∃ X b, e = .returned (.tuple #[.iface 113 (PB X), .nilIface]) /\ w'.heap[X]? = some (.cells (fileC b 0 false).toArray 118) /\ DirAt w' b L n F /\ W.heap.size <= X /\ Below W.heap.size W w') :
 Calls Tryz.prog 65 #[.string p, .int .i64 0, .int .i64 (-1), PB Bc] w fun e w' => e = .returned (.tuple #[.string (ofL ((img.drop (L * 2048)).take n)), .bool true]) /\ Below w.heap.size w w' := by
 subst h0
 have H66 := Lib.hid h66
 have HK := Lib.hid (fun W (h : Below w.heap.size w W) => hW.later h)
 have hFl := hW.lt
 have q113 := as113
 have h0l : 0 < w.heap.size := cell_lt hG
 have hbl : ((img.drop (L * 2048)).take 0).length = 0 := by rw [List.length_take, List.length_drop]; omega
 have HBL := Lib.hid hbl
 have HG := Lib.hid hG
 clear hW h66 hbl hG
 go_enter Tryz.func65, Tryz.ntmps65
 go_upto_region 12 with (first
  | (go_at_call 68; go_must (refine (seek0_any X b _ HX.out).mono ?_); rintro e w4 ⟨rfl, h4⟩; have h4' := h4.symm; subst h4')
  | (go_at_call 67; go_must (refine (sizeD_any _ b L 0 F HE.out (by omega)).mono ?_); rintro e w3 ⟨rfl, h3⟩; have h3' := h3.symm; subst h3')
  | (go_at_call 66; go_must (refine (H66.out _ (Below.refl _ _)).mono ?_); rintro e w2 ⟨X, b, rfl, hX, hE, hXw, hb2⟩; have HX := Lib.hid hX; have HE := Lib.hid hE; have x0 := ent_cell hX 0 _ rfl; clear hX hE))
 have hX2 : X < w2.heap.size := cell_lt x0
 have hb2' : b < w2.heap.size := HE.out.lt
 go_upto_region 14 with (first
  | (at_make; refine asList rfl fun KK hKK => ?_; go_must (refine go_makeN (w0 := w2) (.tmp 53) (.tmp 53) rfl w2.heap.size _ _ _ _ 0 0 rfl rfl rfl rfl (Nat.le_refl _) (by omega) (Below.refl _ _) (Nat.le_refl _) ?_); intro w5 Lz hLz hlz hO5 hb5 hs5; refine hKK _ _ ?_; clear hKK KK))
 have hb52 : Below w.heap.size w w5 := hb2.trans (hb5.mono hb2.size)
 have hW5 := HK.out _ hb52
 have x5 := (hb5.block X hX2).trans HX.out
 have hE5 := HE.out.keep hb5 hb2'
 have g5 : w5.cell? ⟨0, 0, none⟩ = some (EofV E) := (hb52.cell (p := ⟨0, 0, none⟩) h0l).trans HG.out
 have hF2 : F < w2.heap.size := Nat.lt_of_lt_of_le hFl hb2.size
 have hb6 : Below w.heap.size w w5 := hb52
 have hO6 := hO5
 have x6 := x5
 have hL0 : Lz = [] := List.length_eq_zero_iff.1 (by rw [hlz.out])
 rw [hL0] at hO6
 have hT0 : (img.drop (L * 2048)).take 0 = [] := List.take_zero
 rw [<- hT0] at hO6
 clear hW5 hE5 hO5 hlz hLz g5 hs5 x5 hL0 hT0
 refine wp_loop_rounds 1 ?_
 rw [rounds_succ]
 go_upto_region 20 with (fail)
 have hS6 : S65 w X b 0 w2.heap.size w2.heap.size ((img.drop (L * 2048)).take 0) w5 := ⟨hO6, ⟨_, x6⟩, hb6⟩
 have hcv : ∀ W, S65 w X b 0 w2.heap.size w2.heap.size ((img.drop (L * 2048)).take 0) W -> (convert 27 9 (.slice (some ⟨w2.heap.size, 0, none⟩) 0 0)).run Tryz.prog W = .ok (.string (ofL ((img.drop (L * 2048)).take 0))) W := fun W h => conv_own h.1 HBL.out
 have h70 : ∀ W, S65 w X b 0 w2.heap.size w2.heap.size ((img.drop (L * 2048)).take 0) W -> Calls Tryz.prog 70 #[PB X] W fun e w' => e = .returned .nilIface /\ S65 w X b 0 w2.heap.size w2.heap.size ((img.drop (L * 2048)).take 0) w' := fun W h => by
  obtain ⟨cl, h2⟩ := h.2.1
  refine (close_any X b 0 cl W h2).mono ?_
  rintro e w' ⟨rfl, rfl⟩
  exact ⟨rfl, h.close hXw hX2⟩
 obtain ⟨st, hste⟩ : ∃ st, ofL ((img.drop (L * 2048)).take 0) = st := ⟨_, rfl⟩
 generalize hSS : S65 w X b 0 w2.heap.size w2.heap.size ((img.drop (L * 2048)).take 0) = SS at hS6 hcv h70
 rw [hste] at hcv
 have hdr : ∀ W, SS W -> SS W.drew := fun W h => by rw [<- hSS] at h ⊢; exact h.drew
 have HSS := Lib.hid hSS; have H70 := Lib.hid h70; have HDR := Lib.hid hdr; have HCV := Lib.hid hcv; have HSTE := Lib.hid hste
 have hnn : ((0 : Nat) : Int) <= ((0 : Nat) : Int) := Int.le_refl _
 have hn0 : (0 : Int) <= ((0 : Nat) : Int) := by omega
 clear hSS h70 hdr hcv hste hO6 x6 hb6
 go_region_held3 (fun W => SS W /\ (convert 27 9 (.slice (some ⟨w2.heap.size, 0, none⟩) 0 0)).run Tryz.prog W = .ok (.string st) W) (first | exact ⟨hS6, HCV.out _ hS6⟩ | exact ⟨HDR.out _ hS6, HCV.out _ (HDR.out _ hS6)⟩ | exact ⟨hSx, HCV.out _ hSx⟩ | go_keep) (first
  | (go_at_call 70; go_must (refine (H70.out _ (by first | assumption | exact HDR.out _ hS6)).mono ?_); rintro e w8 ⟨rfl, hSx⟩))
 have hSx' := hSx
 rw [<- HSS.out] at hSx'
 have HB := Lib.hid hSx'.2.2
 clear hSx' hSx hS6
 go_wp2
 go_ret2
 have h := HSTE.out
 subst h
 exact ⟨rfl, HB.out⟩
structure LeafD where
 path : List UInt8
 nm : List UInt8
 f : File
 s : Nat
 data : List UInt8
def leafV (d : LeafD) (l : Nat) : List Value := [SV d.path, SV d.nm, .bool d.f.dir, .bool (isLink d.f), .bool false, .int .u32 d.f.perm, .int .i64 d.s, .int .i64 d.f.time, .int .u32 d.f.uid, .int .u32 d.f.gid, .int .u32 l, .int .u32 0, .string (ofL d.f.target.data.toList), .string ⟨#[]⟩, SV d.data]
def LeafRow (ds : List LeafD) (us : List Value) : Prop := ∃ ls : List Nat, ls.length = ds.length /\ us = (List.zipWith leafV ds ls).flatten
theorem LeafRow.nil : LeafRow [] [] := ⟨[], rfl, rfl⟩
theorem LeafRow.snoc {ds : List LeafD} {us : List Value} (h : LeafRow ds us) (d : LeafD) (l : Nat) : LeafRow (ds ++ [d]) (us ++ leafV d l) := by
 obtain ⟨ls, h1, rfl⟩ := h
 refine ⟨ls ++ [l], by simp [h1], ?_⟩
 rw [List.zipWith_append h1.symm]
 simp
def pathQ (qs : List (List UInt8)) : List UInt8 := if qs = [] then [46] else joinP qs
def kidPath (qs : List (List UInt8)) (nm : List UInt8) : List UInt8 := if qs = [] then nm else joinP qs ++ 47 :: nm
def leafK (ms : List Node) (T : TreeX) (qs : List (List UInt8)) (k : Nat) : LeafD := ⟨kidPath qs (T.kid k).nm, (T.kid k).nm, (nodeAt ms k).f, (T.kid k).r.s, if (nodeAt ms k).f.dir || isLink (nodeAt ms k).f then [] else (nodeAt ms k).f.data.data.toList⟩
def leavesF (ms : List Node) (T : TreeX) : Nat -> List (List UInt8) -> Nat -> List LeafD
 | 0, _, _ => []
 | n + 1, qs, i => (kidsOf ms i).flatMap fun k => leafK ms T qs k :: (if dirOf ms k = true then leavesF ms T n (qs ++ [(T.kid k).nm]) k else [])
def Fr39 (w w' : World) : Prop := w.heap.size <= w'.heap.size /\ ∀ (k : Nat) (cs : Array Value) (t : TypeId), t ≠ 39 -> w.heap[k]? = some (Obj.cells cs t) -> w'.heap[k]? = some (Obj.cells cs t)
theorem Fr39.refl (w : World) : Fr39 w w := ⟨Nat.le_refl _, fun _ _ _ _ h => h⟩
theorem Fr39.trans {a b c : World} (h : Fr39 a b) (h' : Fr39 b c) : Fr39 a c := ⟨Nat.le_trans h.1 h'.1, fun k cs t ht hk => h'.2 k cs t ht (h.2 k cs t ht hk)⟩
theorem Fr39.below {w w' : World} (h : Below w.heap.size w w') : Fr39 w w' := ⟨h.size, fun k cs t _ hk => by rw [h.block k (Array.getElem?_eq_some_iff.1 hk).1]; exact hk⟩
theorem Fr39.grown {w w' : World} {B n co : Nat} {A : Option Addr} {us : List Value} (hO : w.ownsRow B 39 15 (.slice A n co) n us) (hg : w.grownBy w' (Value.slice A n co).ownBlock) (hs : w.heap.size <= w'.heap.size) : Fr39 w w' :=
 ⟨hs, fun k cs t ht hk => by rw [hg.block k (Array.getElem?_eq_some_iff.1 hk).1 (row_not hO hk ht)]; exact hk⟩
theorem row_fr39 {w w' : World} {B e s n : Nat} {v : Value} {us : List Value} (h : w.ownsRow B e s v n us) (he : e ≠ 39) (hf : Fr39 w w') : w'.ownsRow B e s v n us :=
 ⟨h.1, h.2.imp id fun ⟨g, cap, cur, hv, h1, h2, h3⟩ => ⟨g, cap, cur, hv, h1, hf.2 g _ e he h2, h3⟩⟩
theorem EntX.fr39 {w w' : World} {b : Nat} {r : Rec} {h : Bool} {its : List Item} {fs : Value} {L : Nat} (H : EntX w b r h its fs L) (hf : Fr39 w w') : EntX w' b r h its fs L := by
 obtain ⟨x, a, X, co, vs, ht, hb, hO, hA⟩ := H
 exact ⟨x, a, X, co, vs, ht, hf.2 b _ 176 (by decide) hb, row_fr39 hO (by decide) hf, hA⟩
theorem EntsR.fr39 {w w' : World} {bs : List Nat} {rs : List RX} {fs : Value} (h : EntsR w bs rs fs) (hf : Fr39 w w') : EntsR w' bs rs fs := ⟨h.1, fun k b x h1 h2 => (h.2 k b x h1 h2).fr39 hf⟩
theorem downX_snoc {ms : List Node} {T : TreeX} {k i : Nat} (hk : k ∈ kidsOf ms i) (hd : dirOf ms k = true) (hu : ∀ k' ∈ kidsOf ms i, (T.kid k').nm = (T.kid k).nm -> k' = k) : ∀ (qs : List (List UInt8)) (a : Nat), DownX ms T a qs i -> DownX ms T a (qs ++ [(T.kid k).nm]) k := by
 intro qs
 induction qs with
 | nil => intro a h; cases h; exact .cons _ k k _ [] hk hd rfl hu (.nil k)
 | cons q qs ih =>
   intro a h
   cases h with
   | cons _ k1 _ _ _ h1 h2 h3 h4 h5 => exact .cons _ k1 _ _ _ h1 h2 h3 h4 (ih k1 h5)
abbrev roadsC (F Bc : Nat) : List Value := [.func (.func 62) #[PB F] #[], .func (.func 63) #[PB F] #[], .func (.func 64) #[PB F] #[], .func (.func 65) #[] #[PB Bc]]
theorem flat_take {α β : Type} (G : α -> List β) (l : List α) (t : Nat) (x : α) (h : l[t]? = some x) : (l.take (t + 1)).flatMap G = (l.take t).flatMap G ++ G x /\ ((l.take t).flatMap G).length + (G x).length <= (l.flatMap G).length := by
 have ht := (List.getElem?_eq_some_iff.1 h).1
 have e1 : l.take (t + 1) = l.take t ++ [x] := by
  rw [<- List.take_append_getElem ht]; congr 2
  rw [List.getElem?_eq_getElem ht] at h; simpa using h
 have e2 : (l.take (t + 1)).flatMap G = (l.take t).flatMap G ++ G x := by rw [e1, List.flatMap_append]; simp
 refine ⟨e2, ?_⟩
 have e3 : l = l.take (t + 1) ++ l.drop (t + 1) := (List.take_append_drop _ _).symm
 have : (l.flatMap G).length = ((l.take (t + 1)).flatMap G).length + ((l.drop (t + 1)).flatMap G).length := by
  conv => lhs; rw [e3, List.flatMap_append, List.length_append]
 rw [e2, List.length_append] at this
 omega
theorem flat_len {α β : Type} (a : α -> β) (b : α -> List β) : ∀ l : List α, l.length <= (l.flatMap fun x => a x :: b x).length := by
 intro l
 induction l with
 | nil => simp
 | cons x l ih => simp only [List.flatMap_cons, List.length_append, List.length_cons]; omega
structure WalkX (ms : List Node) (T : TreeX) (F Bc M D : Nat) (img : List UInt8) (w0 : World) : Prop where
 fs : FsR w0 F M D true img
 uniq : ∀ i k, k ∈ kidsOf ms i -> ∀ k' ∈ kidsOf ms i, (T.kid k').nm = (T.kid k).nm -> k' = k
 told : ∀ i k, k ∈ kidsOf ms i -> Told (nodeAt ms k).f (T.kid k) /\ (T.kid k).r.s < 4294967296 /\ ((nodeAt ms k).f.dir = true -> (nodeAt ms k).f.target.data.toList = [])
 lt : ∀ i k, k ∈ kidsOf ms i -> i < k /\ k < ms.length
 path : ∀ qs i, DownX ms T 0 qs i -> qs ≠ [] -> joinP qs ≠ [46] /\ (joinP qs).length <= 10000
 list : ∀ qs i, DownX ms T 0 qs i -> i < ms.length -> dirOf ms i = true -> ∀ W, Below w0.heap.size w0 W -> Calls Tryz.prog 63 #[PB F, SV (pathQ qs)] W fun e w' => ListX W w' F ((kidsOf ms i).map T.kid) e
 stat : ∀ qs i k, DownX ms T 0 qs i -> i < ms.length -> dirOf ms i = true -> k ∈ kidsOf ms i -> ∀ W, Below w0.heap.size w0 W -> Calls Tryz.prog 64 #[PB F, SV (kidPath qs (T.kid k).nm)] W fun e w' => ∃ b, e = .returned (.tuple #[IB b, .nilIface]) /\ EntX w' b (T.kid k).r true (T.kid k).fo (PB F) /\ Below W.heap.size W w'
 read : ∀ qs i k, DownX ms T 0 qs i -> i < ms.length -> dirOf ms i = true -> k ∈ kidsOf ms i -> (nodeAt ms k).f.dir = false -> isLink (nodeAt ms k).f = false -> ∀ W, Below w0.heap.size w0 W -> Calls Tryz.prog 65 #[SV (kidPath qs (T.kid k).nm), .int .i64 0, .int .i64 (-1), PB Bc] W fun e w' => e = .returned (.tuple #[SV (nodeAt ms k).f.data.data.toList, .bool true]) /\ Below W.heap.size W w'
abbrev leafY (path nm : ByteArray) (f : File) (s l : Nat) (dt : ByteArray) : List Value := [.string path, .string nm, .bool f.dir, .bool (isLink f), .bool false, .int .u32 f.perm, .int .i64 s, .int .i64 f.time, .int .u32 f.uid, .int .u32 f.gid, .int .u32 l, .int .u32 0, .string (ofL f.target.data.toList), .string ⟨#[]⟩, .string dt]
theorem leafY_one (path nm : ByteArray) (f : File) (s l : Nat) (dt : ByteArray) : ∀ u ∈ leafY path nm f s l dt, u.oneCell' = true := by
 intro u hu
 simp only [leafY, List.mem_cons, List.not_mem_nil, or_false] at hu
 rcases hu with rfl | rfl | rfl | rfl | rfl | rfl | rfl | rfl | rfl | rfl | rfl | rfl | rfl | rfl | rfl <;> rfl
theorem walkX_any (ms : List Node) (T : TreeX) (F Bc M D : Nat) (img : List UInt8) (w0 : World) (hX : WalkX ms T F Bc M D img w0) : ∀ (n : Nat) (qs : List (List UInt8)) (i : Nat) (W : World) (A : Option Addr) (m co : Nat) (us : List Value) (ds : List LeafD), ms.length <= i + n -> i < ms.length -> dirOf ms i = true -> DownX ms T 0 qs i -> Below w0.heap.size w0 W -> W.ownsRow w0.heap.size 39 15 (.slice A m co) m us -> LeafRow ds us -> m + (leavesF ms T n qs i).length <= 500 ->
 Calls Tryz.prog 71 #[RoadsV F Bc, SV (pathQ qs), .slice A m co] W fun e w' => ∃ A' co' us', e = .returned (.tuple #[.slice A' (m + (leavesF ms T n qs i).length) co', .bool true]) /\ w'.ownsRow w0.heap.size 39 15 (.slice A' (m + (leavesF ms T n qs i).length) co') (m + (leavesF ms T n qs i).length) us' /\ LeafRow (ds ++ leavesF ms T n qs i) us' /\ Below w0.heap.size w0 w' /\ Fr39 W w' := by
 intro n
 induction n with
 | zero => intro qs i W A m co us ds h1 h2; omega
 | succ n ih =>
   intro qs i W A m co us ds hn hi hd hdn hbW hO hLR h500
   obtain ⟨G, hG⟩ : ∃ G, G = fun k => leafK ms T qs k :: (if dirOf ms k = true then leavesF ms T n (qs ++ [(T.kid k).nm]) k else []) := ⟨_, rfl⟩
   obtain ⟨ks, hks⟩ : ∃ ks, kidsOf ms i = ks := ⟨_, rfl⟩
   have hlv : leavesF ms T (n + 1) qs i = ks.flatMap G := by rw [<- hks, hG]; rfl
   rw [hlv] at h500 ⊢
   obtain ⟨P, hP⟩ : ∃ P, pathQ qs = P := ⟨_, rfl⟩
   have HL := Lib.hid (fun W h => hX.list qs i hdn hi hd W h)
   rw [hks, hP] at HL
   have HWX := Lib.hid hX; have HKS := Lib.hid hks; have HG := Lib.hid hG; have HIH := Lib.hid ih; have HO := Lib.hid hO; have HLR := Lib.hid hLR; have H5 := Lib.hid h500; have HDN := Lib.hid hdn; have HI := Lib.hid hi; have HD := Lib.hid hd; have HN := Lib.hid hn; have HP := Lib.hid hP
   have HFS := Lib.hid (fun W (h : Below w0.heap.size w0 W) => hX.fs.later h)
   rw [hP]
   have hksl : ks.length <= 500 := by
    have : ks.length <= (ks.flatMap G).length := by
     rw [hG]; exact flat_len _ _ ks
    omega
   clear hX hks hG ih hO hLR h500 hdn hd hn hP hlv
   have hbA : Below w0.heap.size w0 (W.alloc (.cells (roadsC F Bc).toArray 76)) := hbW.alloc hbW.size _
   go_enter Tryz.func71, Tryz.ntmps71
   go_upto_region 4 with (first
    | (go_at_call 63; go_must (refine (HL.out _ hbA).mono ?_); rintro e w2 ⟨A2, c2, bs, rfl, hO2, hE2, hB2, hb2⟩))
   have hbw2 : Below w0.heap.size w0 w2 := hbA.trans (hb2.mono hbA.size)
   have hbx : w2.heap[W.heap.size]? = some (.cells (roadsC F Bc).toArray 76) := (hb2.block W.heap.size (by simp)).trans (heap_alloc_new W _)
   have hfr2 : Fr39 W w2 := (Fr39.below ((Below.refl _ _).alloc (Nat.le_refl _) _)).trans (Fr39.below hb2)
   have hOw : w2.ownsRow w0.heap.size 39 15 (.slice A m co) m us := ownsRow_later (ownsRow_later HO.out ((Below.refl _ _).alloc (Nat.le_refl _) _)) hb2
   obtain ⟨R0, hR0⟩ : ∃ R0, W.heap.size = R0 := ⟨_, rfl⟩
   have HR0 := Lib.hid hR0
   rw [hR0] at hbx ⊢
   have HBX := Lib.hid hbx; have HO2 := Lib.hid hO2; have HE2 := Lib.hid hE2; have HFR2 := Lib.hid hfr2; have HOW := Lib.hid hOw
   clear hbx hO2 hE2 hB2 hb2 hfr2 hOw hR0 hbA
   obtain ⟨N, hNe⟩ : ∃ N, ks.length = N := ⟨_, rfl⟩
   rw [hNe] at hksl ⊢
   have HNE := Lib.hid hNe
   clear hNe
   go_wp2
   go_loopw [2, 29] (fun lv iv wr => ∃ (t q : Nat) (A' : Option Addr) (co' : Nat) (us' : List Value), t <= N /\ iv = .int .i64 t /\ lv = .slice A' q co' /\ Hid (q = m + ((ks.take t).flatMap G).length) /\ Hid (wr.ownsRow w0.heap.size 39 15 (.slice A' q co') q us') /\ Hid (LeafRow (ds ++ (ks.take t).flatMap G) us') /\ Below w0.heap.size w0 wr /\ Hid (Fr39 w2 wr)) (fun _ iv _ => N - (intOf iv).toNat)
   case atStart => exact ⟨0, m, A, co, us, Nat.zero_le _, rfl, rfl, by simp [Hid], HOW, by unfold Hid; simpa using HLR.out, hbw2, Fr39.refl _⟩
   case round =>
    obtain ⟨t, q, A', co', us', ht, rfl, rfl, hq, hOr, hLr, hbr, hfr⟩ := hrel
    by_cases hlt : t < N
    . obtain ⟨k, hk⟩ : ∃ k, ks[t]? = some k := ⟨ks[t]'(by rw [HNE.out]; exact hlt), List.getElem?_eq_getElem _⟩
      have hkm : k ∈ kidsOf ms i := by rw [HKS.out]; exact List.mem_of_getElem? hk
      obtain ⟨hft1, hft2⟩ := flat_take G ks t k hk
      obtain ⟨hT, hs32, hdt⟩ := HWX.out.told i k hkm
      obtain ⟨hik, hkl⟩ := HWX.out.lt i k hkm
      have htb : t < bs.length := by rw [HE2.out.1, List.length_map, HNE.out]; exact hlt
      obtain ⟨bt, hbt⟩ : ∃ bt, bs[t]? = some bt := ⟨_, List.getElem?_eq_getElem htb⟩
      have hEt := (HE2.out.fr39 hfr.out).2 t bt (T.kid k) hbt (by rw [List.getElem?_map, hk]; rfl)
      obtain ⟨g5, rfl, _, hg5, hc5⟩ := row_addr (row_fr39 HO2.out (by decide) hfr.out) (by rw [List.length_map, HNE.out]; omega)
      have hp1 := hc5 t (IB bt) (by rw [List.getElem?_map, hbt]; rfl)
      have m1 := method_Name ⟨bt, 0, none⟩
      have hbx := hfr.out.2 R0 _ 76 (by decide) HBX.out
      have hR0l : R0 < wr.heap.size := (Array.getElem?_eq_some_iff.1 hbx).1
      have HNM := Lib.hid (nameX_any wr bt F M D img _ (T.kid k) hEt (HFS.out _ hbr) hT)
      have HST := Lib.hid (fun W h => HWX.out.stat qs i k HDN.out HI.out HD.out hkm W h)
      have HRD := Lib.hid (fun h1 h2 W h => HWX.out.read qs i k HDN.out HI.out HD.out hkm h1 h2 W h)
      have hle : q + (G k).length <= 500 := by have := hq.out; have := H5.out; omega
      have hrowlt : ∀ g, (Value.slice A' q co').ownBlock = some g -> g < wr.heap.size := fun g hg => (World.ownsRow.lt hOr.out g hg).2
      have HRL := Lib.hid hrowlt
      have hGk : G k = leafK ms T qs k :: (if dirOf ms k = true then leavesF ms T n (qs ++ [(T.kid k).nm]) k else []) := by rw [HG.out]
      have hkp2 : pathQ (qs ++ [(T.kid k).nm]) = kidPath qs (T.kid k).nm := by
       unfold pathQ kidPath
       rw [if_neg (by simp)]
       split
       . next h => rw [h]; exact joinP_one _
       . next h => exact joinP_snoc _ _ h
      have hpq : (qs = [] /\ (P == [46]) = true) \/ (qs ≠ [] /\ (P == [46]) = false /\ P = joinP qs /\ (joinP qs).length <= 10000) := by
       have hP := HP.out
       unfold pathQ at hP
       by_cases h : qs = []
       . rw [if_pos h] at hP; exact .inl ⟨h, by rw [<- hP]; rfl⟩
       . rw [if_neg h] at hP
         obtain ⟨h1, h2⟩ := HWX.out.path qs i HDN.out h
         exact .inr ⟨h, by rw [<- hP]; simpa using h1, hP.symm, h2⟩
      obtain ⟨L, hL⟩ : ∃ L, (G k).length = L + 1 := ⟨(if dirOf ms k = true then leavesF ms T n (qs ++ [(T.kid k).nm]) k else []).length, by rw [hGk]; rfl⟩
      have hq5 : q < 500 := by omega
      have HREC := Lib.hid (fun (W : World) (A : Option Addr) (m co : Nat) (us : List Value) (ds : List LeafD) (hd : dirOf ms k = true) => HIH.out (qs ++ [(T.kid k).nm]) k W A m co us ds (by have := HN.out; omega) hkl hd (downX_snoc hkm hd (HWX.out.uniq i k hkm) qs 0 HDN.out))
      rw [hkp2] at HREC
      obtain ⟨K, hK⟩ : ∃ K, kidPath qs (T.kid k).nm = K := ⟨_, rfl⟩
      rw [hK] at HST HRD HREC
      have hlk : leafK ms T qs k = ⟨K, (T.kid k).nm, (nodeAt ms k).f, (T.kid k).r.s, if (nodeAt ms k).f.dir || isLink (nodeAt ms k).f then [] else (nodeAt ms k).f.data.data.toList⟩ := by unfold leafK; rw [hK]
      have hnl := hT.len
      have hcat : qs ≠ [] -> P = joinP qs -> ofL P ++ ⟨#[47]⟩ ++ ofL (T.kid k).nm = ofL K := by
       intro h1 h2
       rw [<- hK, h2]; unfold kidPath; rw [if_neg h1]
       apply ByteArray.ext; apply Array.ext'
       simp [ofL, ByteArray.data_append]
      have hK0 : qs = [] -> (T.kid k).nm = K := by intro h; rw [<- hK]; unfold kidPath; rw [if_pos h]
      have HFT := Lib.hid (And.intro hft1 hft2); have HT := Lib.hid hT; have HS32 := Lib.hid hs32; have HDT := Lib.hid hdt; have HET := Lib.hid hEt; have HGK := Lib.hid hGk; have HLE := Lib.hid hle; have HL1 := Lib.hid hL; have HLK := Lib.hid hlk
      obtain ⟨f, hf⟩ : ∃ f, (nodeAt ms k).f = f := ⟨_, rfl⟩
      have HDF := Lib.hid (show dirOf ms k = f.dir from by rw [<- hf])
      rw [hf] at HT HDT HLK
      have HKF := Lib.hid hf
      have c2' := ent_cell (hbx) 2 _ rfl
      have hc6 : ∀ W, Below wr.heap.size wr W -> W.cell? ⟨R0, 2, none⟩ = some (.func (.func 64) #[PB F] #[]) := fun W h => (h.cell (p := ⟨R0, 2, none⟩) hR0l).trans c2'
      have HC6 := Lib.hid hc6
      clear hkm hft1 hft2 hT hs32 hdt hik hkl htb hEt hc5 hbt hk hle hrowlt hGk hkp2 hL hlk c2' hc6 hK hf
      have hz1 : ¬ 9223372036854775807 < (ofL P).size + 1 := by
       rw [Lib.size_eq]; show ¬ _ < P.length + 1
       rcases hpq with ⟨_, h⟩ | ⟨_, _, h, h2⟩
       . have : P = [46] := by simpa using h
         rw [this]; simp
       . rw [h]; omega
      have hz2 : ¬ 9223372036854775807 < (ofL P).size + 1 + (ofL (T.kid k).nm).size := by
       rw [Lib.size_eq, Lib.size_eq]; show ¬ _ < P.length + 1 + (T.kid k).nm.length
       rcases hpq with ⟨_, h⟩ | ⟨_, _, h, h2⟩
       . have : P = [46] := by simpa using h
         rw [this]; simp; omega
       . rw [h]; omega
      have hpk : ((P == [46]) = true /\ (T.kid k).nm = K) \/ ((P == [46]) = false /\ ofL P ++ ⟨#[47]⟩ ++ ofL (T.kid k).nm = ofL K) := by
       rcases hpq with ⟨hq0, hpb⟩ | ⟨hq0, hpb, hPj, _⟩
       . exact .inl ⟨hpb, hK0 hq0⟩
       . exact .inr ⟨hpb, hcat hq0 hPj⟩
      clear hpq hcat hK0
      rcases hpk with ⟨hpb, hKn⟩ | ⟨hpb, hKn⟩
      all_goals
       go_upto_region 10 with (first
        | (go_at_call 89; go_must (refine HNM.out.mono ?_); rintro e w7 ⟨rfl, hb7⟩; have c7 := HC6.out _ hb7))
       clear hKn
       have hq5I : ¬ (500 : Int) <= (q : Int) := by omega
       have hb07 : Below w0.heap.size w0 w7 := hbr.trans (hb7.mono hbr.size)
       go_upto_region 13 with (first
        | (go_at_call 64; go_must (refine (HST.out _ hb07).mono ?_); rintro e w8 ⟨b8, rfl, hE8, hb8⟩))
       have hb08 : Below w0.heap.size w0 w8 := hb07.trans (hb8.mono hb07.size)
       have hbr8 : Below wr.heap.size wr w8 := hb7.trans (hb8.mono hb7.size)
       have HE8 := Lib.hid hE8
       clear hE8 c7 m1 hp1 hq5I
       go_upto_region 14 with (first
        | (refine atStore 39 ?_; go_must (refine wpList_storeNew rfl 39 _ _ rfl _ (leafX (ofL K) (T.kid k).nm f (T.kid k).r.s l).toArray _ _ rfl rfl (by exact info39) (by rfl) (by rfl) ?_))
        | (go_at_call 72; go_must (refine (leafX_any (ofL K) w8 b8 F M D img _ _ HE8.out (HFS.out _ hb08) HT.out HS32.out HDT.out).mono ?_); rintro e w9 ⟨l, rfl, hb9⟩))
       have hb09 : Below w0.heap.size w0 w9 := hb08.trans (hb9.mono hb08.size)
       have hbr9 : Below wr.heap.size wr w9 := hbr8.trans (hb9.mono hbr8.size)
       refine genW (F := fun W' => Below w0.heap.size w0 W' /\ Below wr.heap.size wr W' /\ W'.heap[w9.heap.size]? = some (.cells (leafX (ofL K) (T.kid k).nm f (T.kid k).r.s l).toArray 39) /\ wr.heap.size <= w9.heap.size) ⟨hb09.alloc hb09.size _, hbr9.alloc hbr9.size _, heap_alloc_new w9 _, hbr9.size⟩ (fun w10 h10 => ?_)
       obtain ⟨X, hXe⟩ : ∃ X, w9.heap.size = X := ⟨_, rfl⟩
       rw [hXe] at h10 ⊢
       obtain ⟨hb010, hbr10, hx10, hXw⟩ := h10
       have l2 := ent_cell hx10 2 _ rfl
       have l3 := ent_cell hx10 3 _ rfl
       have l4 := ent_cell hx10 4 _ rfl
       have HX10 := Lib.hid hx10
       clear hXe hb9 hb09 hbr9 hb8 hb08 hbr8 hb7 hb07 hx10
       have hkind : (f.dir = true /\ isLink f = false) \/ (f.dir = false /\ isLink f = true) \/ (f.dir = false /\ isLink f = false) := by
        have := HDT.out
        cases h1 : f.dir with
        | true => exact .inl ⟨rfl, by unfold isLink; rw [this h1]; rfl⟩
        | false => cases h2 : isLink f <;> simp
       rcases hkind with ⟨hfd, hfl⟩ | ⟨hfd, hfl⟩ | ⟨hfd, hfl⟩
       . rw [hfd] at l2; rw [hfl] at l3
         have HFD := Lib.hid hfd; have HFL := Lib.hid hfl
         clear hfd hfl
         go_upto_region 16 with (fail)
         have HLV : Hid (leafV (leafK ms T qs k) l = leafY (ofL K) (ofL (T.kid k).nm) f (T.kid k).r.s l ⟨#[]⟩) := by unfold Hid; rw [HLK.out, HFD.out, HFL.out]; rfl
         have HGE : Hid (G k = leafK ms T qs k :: leavesF ms T n (qs ++ [(T.kid k).nm]) k) := by unfold Hid; rw [HGK.out, HDF.out, HFD.out, if_pos rfl]
         have HOX := Lib.hid (ownsRow_later hOr.out hbr10)
         have hX10 : X < w10.heap.size := cell_lt l2
         clear l3 l4
         go_upto_region 17 with (first
          | (refine atLoad 39 ?_; go_must (refine wpList_loadB rfl 39 _ rfl (b := X) rfl (leafY (ofL K) (ofL (T.kid k).nm) f (T.kid k).r.s l ⟨#[]⟩) 39 HX10.out (by kernel_rfl) (by exact info39) ?_))
          | (at_builtin; refine asList rfl fun KK hKK => ?_; go_must (refine go_appRow (w := w10) under30 info39z (by decide) (.tmp 80) (.tmp 82) rfl w0.heap.size w10.heap.size q co' A' us' (leafY (ofL K) (ofL (T.kid k).nm) f (T.kid k).r.s l ⟨#[]⟩) rfl (leafY_one _ _ _ _ _ _) rfl HOX.out ((Below.refl _ _).alloc (Nat.le_refl _) _) (by show (w10.heap.push _)[w10.heap.size]? = _; rw [Array.getElem?_push_size]) rfl rfl (by omega) (by decide) hb010.size ?_); intro g11 c11 w11 hO11 hb11 hs11 hg11; refine hKK _ _ ?_; clear hKK KK))
         have hnX : some X ≠ (Value.slice A' q co').ownBlock := fun e => by have := HRL.out X e.symm; omega
         have hA10 : Below w10.heap.size w10 (w10.alloc (.cells (leafY (ofL K) (ofL (T.kid k).nm) f (T.kid k).r.s l ⟨#[]⟩).toArray 39)) := (Below.refl _ _).alloc (Nat.le_refl _) _
         have hfr11 : Fr39 w2 w11 := (hfr.out.trans (Fr39.below hbr10)).trans ((Fr39.below hA10).trans (Fr39.grown (ownsRow_later HOX.out hA10) hg11 (by have := hs11; have := hg11.size; omega)))
         have hb011 : Below w0.heap.size w0 w11 := hb010.trans hb11
         have l11 : w11.cell? ⟨X, 2, none⟩ = some (.bool true) := by
          have e1 := hg11.block X (by have := hX10; simp; omega) hnX
          have e2 := hA10.block X hX10
          have e3 : w11.cell? ⟨X, 2, none⟩ = w10.cell? ⟨X, 2, none⟩ := by simp only [World.cell?, e1, e2]
          exact e3.trans l2
         obtain ⟨LS, hLS⟩ : ∃ LS, leavesF ms T n (qs ++ [(T.kid k).nm]) k = LS := ⟨_, rfl⟩
         have hLn : LS.length = L := by have h := HL1.out; rw [HGE.out, hLS, List.length_cons] at h; omega
         have hbx11 := hfr11.2 R0 _ 76 (by decide) HBX.out
         have HRC := Lib.hid (HREC.out w11 (some ⟨g11, 0, none⟩) (q + 1) c11 _ (ds ++ (ks.take t).flatMap G ++ [leafK ms T qs k]) (by rw [HDF.out]; exact HFD.out) hb011 hO11 (by have := hLr.out.snoc (leafK ms T qs k) l; rw [HLV.out] at this; exact this) (by rw [hLS, hLn]; have := HLE.out; rw [HL1.out] at this; omega))
         rw [hLS, hLn] at HRC
         have HLS := Lib.hid hLS; have HLN := Lib.hid hLn; have HBX11 := Lib.hid hbx11; have HFR11 := Lib.hid hfr11
         clear hLS hLn hbx11 l2 hX10 hA10 hg11 hO11 hb11 hs11 hfr11 hnX
         go_upto_region 19 with (first
          | (refine atLoad 76 ?_; go_must (refine wpList_loadB rfl 76 _ rfl (b := R0) rfl (roadsC F Bc) 76 HBX11.out (by kernel_rfl) (by kernel_rfl) ?_))
          | (go_at_call 71; go_must (refine HRC.out.mono ?_); rintro e w12 ⟨A12, c12, us12, rfl, hO12, hL12, hb12, hf12⟩; have HO12 := Lib.hid hO12; have HL12 := Lib.hid hL12; have HF12 := Lib.hid hf12; clear hO12 hL12 hf12))
         go_wp2_with (fail)
         go_roundw
         case rel =>
          refine ⟨t + 1, _, _, _, _, hlt, by simp, rfl, ?_, HO12.out, ?_, hb12, HFR11.out.trans HF12.out⟩
          . unfold Hid; rw [HFT.out.1, List.length_append, HL1.out, <- Nat.add_assoc, <- hq.out]; omega
          . unfold Hid; rw [HFT.out.1, HGE.out, HLS.out]; have := HL12.out; simpa using this
         case measure => simp [intOf]; omega
       . rw [hfd] at l2; rw [hfl] at l3
         have HFD := Lib.hid hfd; have HFL := Lib.hid hfl
         clear hfd hfl
         go_upto_region 16 with (fail)
         have HLV : Hid (leafV (leafK ms T qs k) l = leafY (ofL K) (ofL (T.kid k).nm) f (T.kid k).r.s l ⟨#[]⟩) := by unfold Hid; rw [HLK.out, HFD.out, HFL.out]; rfl
         have HGE : Hid (G k = [leafK ms T qs k]) := by unfold Hid; rw [HGK.out, HDF.out, HFD.out]; rfl
         have HOX := Lib.hid (ownsRow_later hOr.out hbr10)
         have hX10 : X < w10.heap.size := cell_lt l2
         clear l3 l4
         go_upto_region 17 with (first
          | (refine atLoad 39 ?_; go_must (refine wpList_loadB rfl 39 _ rfl (b := X) rfl (leafY (ofL K) (ofL (T.kid k).nm) f (T.kid k).r.s l ⟨#[]⟩) 39 HX10.out (by kernel_rfl) (by exact info39) ?_))
          | (at_builtin; refine asList rfl fun KK hKK => ?_; go_must (refine go_appRow (w := w10) under30 info39z (by decide) (.tmp 80) (.tmp 82) rfl w0.heap.size w10.heap.size q co' A' us' (leafY (ofL K) (ofL (T.kid k).nm) f (T.kid k).r.s l ⟨#[]⟩) rfl (leafY_one _ _ _ _ _ _) rfl HOX.out ((Below.refl _ _).alloc (Nat.le_refl _) _) (by show (w10.heap.push _)[w10.heap.size]? = _; rw [Array.getElem?_push_size]) rfl rfl (by omega) (by decide) hb010.size ?_); intro g11 c11 w11 hO11 hb11 hs11 hg11; refine hKK _ _ ?_; clear hKK KK))
         have hnX : some X ≠ (Value.slice A' q co').ownBlock := fun e => by have := HRL.out X e.symm; omega
         have hA10 : Below w10.heap.size w10 (w10.alloc (.cells (leafY (ofL K) (ofL (T.kid k).nm) f (T.kid k).r.s l ⟨#[]⟩).toArray 39)) := (Below.refl _ _).alloc (Nat.le_refl _) _
         have hfr11 : Fr39 w2 w11 := (hfr.out.trans (Fr39.below hbr10)).trans ((Fr39.below hA10).trans (Fr39.grown (ownsRow_later HOX.out hA10) hg11 (by have := hs11; have := hg11.size; omega)))
         have hb011 : Below w0.heap.size w0 w11 := hb010.trans hb11
         have l11 : w11.cell? ⟨X, 2, none⟩ = some (.bool false) := by
          have e1 := hg11.block X (by have := hX10; simp; omega) hnX
          have e2 := hA10.block X hX10
          have e3 : w11.cell? ⟨X, 2, none⟩ = w10.cell? ⟨X, 2, none⟩ := by simp only [World.cell?, e1, e2]
          exact e3.trans l2
         have HO11 := Lib.hid hO11; have HFR11 := Lib.hid hfr11
         clear l2 hX10 hA10 hg11 hO11 hb11 hs11 hfr11 hnX
         go_wp2_with (fail)
         go_roundw
         case rel =>
          refine ⟨t + 1, _, _, _, _, hlt, by simp, rfl, ?_, HO11.out, ?_, hb011, HFR11.out⟩
          . unfold Hid; rw [HFT.out.1, List.length_append, HGE.out, List.length_singleton, <- Nat.add_assoc, <- hq.out]
          . unfold Hid; rw [HFT.out.1, HGE.out, <- List.append_assoc]; have := hLr.out.snoc (leafK ms T qs k) l; rw [HLV.out] at this; exact this
         case measure => simp [intOf]; omega
       . rw [hfd] at l2; rw [hfl] at l3
         have HFD := Lib.hid hfd; have HFL := Lib.hid hfl
         clear hfd hfl
         go_upto_region 15 with (fail)
         have hXl : X < w10.heap.size := cell_lt l2
         have c3 : w10.cell? ⟨R0, 3, none⟩ = some (.func (.func 65) #[] #[PB Bc]) := (hbr10.cell (p := ⟨R0, 3, none⟩) hR0l).trans (ent_cell hbx 3 _ rfl)
         obtain ⟨dt, hdt⟩ : ∃ dt, ofL f.data.data.toList = dt := ⟨_, rfl⟩
         have HDTT := Lib.hid hdt
         have HRD' := HRD.out
         have HRDD : Hid (∀ W, Below w0.heap.size w0 W -> Calls Tryz.prog 65 #[SV K, .int .i64 0, .int .i64 (-1), PB Bc] W fun e w' => e = .returned (.tuple #[.string dt, .bool true]) /\ Below W.heap.size W w') := by
          unfold Hid; intro W hW; have := HRD.out (by rw [HKF.out]; exact HFD.out) (by rw [HKF.out]; exact HFL.out) W hW; rw [HKF.out] at this; unfold SV at this ⊢; rw [hdt] at this; exact this
         clear l2 l3 l4 HRD' hdt
         go_upto_region 16 with (first
          | (go_at_call 65; go_must (refine (HRDD.out _ hb010).mono ?_); rintro e w12 ⟨rfl, hb12⟩; have x12 := (hb12.block X hXl).trans HX10.out; have c14 := ent_cell x12 14 _ rfl; have fr14 := ent_frozen x12 14))
         have x13 : (w12.setCell ⟨X, 14, none⟩ (.string dt)).heap[X]? = some (.cells (leafY (ofL K) (ofL (T.kid k).nm) f (T.kid k).r.s l dt).toArray 39) := heap_setCell_same w12 X 14 _ 39 (.string dt) x12
         have hX0 : w0.heap.size <= X := Nat.le_trans hbr.size hXw
         have hb012 : Below w0.heap.size w0 w12 := hb010.trans (hb12.mono hb010.size)
         have hbr12 : Below wr.heap.size wr w12 := hbr10.trans (hb12.mono hbr10.size)
         have hb013 : Below w0.heap.size w0 (w12.setCell ⟨X, 14, none⟩ (.string dt)) := hb012.setCell hX0 _
         have hbr13 : Below wr.heap.size wr (w12.setCell ⟨X, 14, none⟩ (.string dt)) := hbr12.setCell hXw _
         clear x12 c14 fr14 hb12 hb012 hbr12 c3 hb010 hbr10
         generalize w12.setCell ⟨X, 14, none⟩ (.string dt) = w13 at x13 hb013 hbr13 ⊢
         have l2 := ent_cell x13 2 _ rfl
         rw [HFD.out] at l2
         have HX13 := Lib.hid x13
         have HLV : Hid (leafV (leafK ms T qs k) l = leafY (ofL K) (ofL (T.kid k).nm) f (T.kid k).r.s l dt) := by unfold Hid; rw [HLK.out, HFD.out, HFL.out, <- HDTT.out]; rfl
         have HGE : Hid (G k = [leafK ms T qs k]) := by unfold Hid; rw [HGK.out, HDF.out, HFD.out]; rfl
         have HOX := Lib.hid (ownsRow_later hOr.out hbr13)
         have hX13 : X < w13.heap.size := cell_lt l2
         clear x13
         go_upto_region 17 with (first
          | (refine atLoad 39 ?_; go_must (refine wpList_loadB rfl 39 _ rfl (b := X) rfl (leafY (ofL K) (ofL (T.kid k).nm) f (T.kid k).r.s l dt) 39 HX13.out (by kernel_rfl) (by exact info39) ?_))
          | (at_builtin; refine asList rfl fun KK hKK => ?_; go_must (refine go_appRow (w := w13) under30 info39z (by decide) (.tmp 80) (.tmp 82) rfl w0.heap.size w13.heap.size q co' A' us' (leafY (ofL K) (ofL (T.kid k).nm) f (T.kid k).r.s l dt) rfl (leafY_one _ _ _ _ _ _) rfl HOX.out ((Below.refl _ _).alloc (Nat.le_refl _) _) (by show (w13.heap.push _)[w13.heap.size]? = _; rw [Array.getElem?_push_size]) rfl rfl (by omega) (by decide) hb013.size ?_); intro g11 c11 w11 hO11 hb11 hs11 hg11; refine hKK _ _ ?_; clear hKK KK))
         have hnX : some X ≠ (Value.slice A' q co').ownBlock := fun e => by have := HRL.out X e.symm; omega
         have hA10 : Below w13.heap.size w13 (w13.alloc (.cells (leafY (ofL K) (ofL (T.kid k).nm) f (T.kid k).r.s l dt).toArray 39)) := (Below.refl _ _).alloc (Nat.le_refl _) _
         have hfr11 : Fr39 w2 w11 := (hfr.out.trans (Fr39.below hbr13)).trans ((Fr39.below hA10).trans (Fr39.grown (ownsRow_later HOX.out hA10) hg11 (by have := hs11; have := hg11.size; omega)))
         have hb011 : Below w0.heap.size w0 w11 := hb013.trans hb11
         have l11 : w11.cell? ⟨X, 2, none⟩ = some (.bool false) := by
          have e1 := hg11.block X (by have := hX13; simp; omega) hnX
          have e2 := hA10.block X hX13
          have e3 : w11.cell? ⟨X, 2, none⟩ = w13.cell? ⟨X, 2, none⟩ := by simp only [World.cell?, e1, e2]
          exact e3.trans l2
         have HO11 := Lib.hid hO11; have HFR11 := Lib.hid hfr11
         clear l2 hX13 hA10 hg11 hO11 hb11 hs11 hfr11 hnX
         go_wp2_with (fail)
         go_roundw
         case rel =>
          refine ⟨t + 1, _, _, _, _, hlt, by simp, rfl, ?_, HO11.out, ?_, hb011, HFR11.out⟩
          . unfold Hid; rw [HFT.out.1, List.length_append, HGE.out, List.length_singleton, <- Nat.add_assoc, <- hq.out]
          . unfold Hid; rw [HFT.out.1, HGE.out, <- List.append_assoc]; have := hLr.out.snoc (leafK ms T qs k) l; rw [HLV.out] at this; exact this
         case measure => simp [intOf]; omega
    . have hte : t = N := by omega
      subst hte
      go_wp2
      go_ret2
      have hq := hq.out
      have e : ks.take t = ks := by rw [<- HNE.out]; exact List.take_length
      have hLr := hLr.out
      rw [e] at hq hLr
      rw [<- hq]
      exact ⟨A', co', us', rfl, hOr.out, hLr, hbr, HFR2.out.trans hfr.out⟩
theorem wpList_loadR {ops : Array Oper} {rest : List Oper} {o : Oper} {a : Act} {w : World} {Q : Exit -> Act -> World -> Prop} (hgd : o.guard = none) (ty : TypeId) (x : Operand) (ho : o.op = .load ty x)
 {b off : Nat} (hx : a.eval x = .pointer (some ⟨b, off, none⟩)) (cs : List Value) (h : w.rangeAt b off cs) (hr : (Tryz.prog.underlying ty).map (·.isRow) = some true) (hi : (Tryz.prog.info? ty).map (·.size) = some cs.length)
 (hK : wpList Tryz.prog ops Q rest (a.put o.dst (.agg cs.toArray)) w) : wpList Tryz.prog ops Q (o :: rest) a w := by
 obtain ⟨d, hd, hr⟩ := isRow_of hr
 exact wpList_load_mid hgd ty x ho b off hx cs d h hd hr hi hK
abbrev leafZ (p nm tg da : ByteArray) (d lk : Bool) (pm s u gg l : Nat) (tm : Int) : List Value := [.string p, .string nm, .bool d, .bool lk, .bool false, .int .u32 pm, .int .i64 s, .int .i64 tm, .int .u32 u, .int .u32 gg, .int .u32 l, .int .u32 0, .string tg, .string ⟨#[]⟩, .string da]
def LeavesC (w : World) (A : Option Addr) (ds : List LeafD) (ls : List Nat) : Prop := ∀ t d, ds[t]? = some d -> ∃ g, A = some ⟨g, 0, none⟩ /\ g < w.heap.size /\ w.rangeAt g (t * 15) (leafV d (ls.getD t 0))
theorem LeavesC.later {w w' : World} {A : Option Addr} {ds : List LeafD} {ls : List Nat} (h : LeavesC w A ds ls) (hb : Below w.heap.size w w') : LeavesC w' A ds ls := by
 intro t d ht
 obtain ⟨g, h1, h2, h3⟩ := h t d ht
 exact ⟨g, h1, Nat.lt_of_lt_of_le h2 hb.size, rangeAt_keep h3 hb h2⟩
theorem leafOf_any (A : Option Addr) (n co : Nat) (ds : List LeafD) (ls : List Nat) (s : ByteArray) (w : World) (hC : LeavesC w A ds ls) (hn : n = ds.length) (hl : n <= 1000) :
 Calls Tryz.prog 38 #[.slice A n co, .string s] w fun e w' => Below w.heap.size w w' /\ ((∃ d l, d ∈ ds /\ ofL d.path = s /\ e = .returned (.tuple #[.agg (leafV d l).toArray, .bool true])) \/ ((∀ d ∈ ds, ofL d.path ≠ s) /\ ∃ Z : List Value, e = .returned (.tuple #[.agg Z.toArray, .bool false]))) := by
 have HC := Lib.hid hC; have HN := Lib.hid hn
 clear hC hn
 go_enter Tryz.func38, Tryz.ntmps38
 go_wp2_with (fail)
 go_loopw [7, 10] (fun _ iv wr => ∃ t : Nat, t <= n /\ iv = .int .i64 t /\ Hid (∀ x ∈ ds.take t, ofL x.path ≠ s) /\ Below w.heap.size w wr /\ ∃ Z : List Value, Z.length = 15 /\ wr.heap[w.heap.size]? = some (.cells Z.toArray 39)) (fun _ iv _ => n - (intOf iv).toNat)
 case atStart => exact ⟨0, Nat.zero_le _, rfl, by simp [Hid], (Below.refl _ _).alloc (Nat.le_refl _) _, ⟨_, by rfl, heap_alloc_new w _⟩⟩
 case round =>
  obtain ⟨t, ht, rfl, hno, hb, Z, hZ, hZc⟩ := hrel
  have hZl := (Array.getElem?_eq_some_iff.1 hZc).1
  by_cases hlt : t < n
  . obtain ⟨x, hx⟩ : ∃ x, ds[t]? = some x := ⟨_, List.getElem?_eq_getElem (by rw [<- HN.out]; exact hlt)⟩
    obtain ⟨g, rfl, hg, hr⟩ := HC.out.later hb t x hx
    have htk : ds.take (t + 1) = ds.take t ++ [x] := by rw [List.take_add_one, hx]; rfl
    have HTK := Lib.hid htk; have HX := Lib.hid hx; have HR := Lib.hid hr
    obtain ⟨l, hle⟩ : ∃ l, ls.getD t 0 = l := ⟨_, rfl⟩
    rw [hle] at hr
    obtain ⟨p, nm, tg, da, d, lk, pm, sz, u, gg, tm, hp, hlz⟩ : ∃ p nm tg da d lk pm sz u gg tm, ofL x.path = p /\ leafV x l = leafZ p nm tg da d lk pm sz u gg l tm := ⟨_, _, _, _, _, _, _, _, _, _, _, rfl, rfl⟩
    have HLZ := Lib.hid hlz; have HP := Lib.hid hp
    rw [hlz] at hr
    have HZ := Lib.hid hZ
    have Z4 := Lib.hid ((show (wr.alloc (.cells (leafZ p nm tg da d lk pm sz u gg l tm).toArray 39)).heap[w.heap.size]? = some (.cells Z.toArray 39) from by rw [((Below.refl wr.heap.size wr).alloc (Nat.le_refl _) (.cells (leafZ p nm tg da d lk pm sz u gg l tm).toArray 39)).block _ hZl]; exact hZc))
    clear htk hx hle hZ HR hlz hp
    by_cases hq : p = s
    . have hqb := str_beq.2 hq
      have HQ := Lib.hid hq
      clear hq
      go_wp2_with (first
       | (refine atStore 39 ?_; refine wpList_storeB rfl 39 (.tmp 4) _ rfl (b := w.heap.size) rfl (leafZ p nm tg da d lk pm sz u gg l tm) Z 39 rfl Z4.out (by exact info39) (by rw [HZ.out]; rfl) (by rfl) ?_; intro w10 j1 j2 j3 j4)
       | (refine atLoad 39 ?_; refine wpList_loadB rfl 39 (.tmp 7) rfl (b := wr.heap.size) rfl (leafZ p nm tg da d lk pm sz u gg l tm) 39 (heap_alloc_new wr _) (by kernel_rfl) (by exact info39) ?_)
       | (refine atLoad 39 ?_; go_must (refine wpList_loadR rfl 39 (.tmp 12) rfl rfl _ hr (by kernel_rfl) (by exact info39) ?_))
       | (refine atStore 39 ?_; go_must (refine wpList_storeNew rfl 39 _ _ rfl _ _ _ _ rfl rfl (by exact info39) (by rfl) (by rfl) ?_)))
      refine bodyPost_ret (v := .tuple #[.agg (leafZ p nm tg da d lk pm sz u gg l tm).toArray, _]) (results_cell_row2 rfl _ _ w.heap.size 39 _ (0, 0) _ rfl j1 Tryz.underlying39 rfl (by exact info39)) rfl ?_
      exact ⟨(hb.alloc hb.size _).trans (j2 _ (Nat.le_refl _)), .inl ⟨x, l, List.mem_of_getElem? HX.out, HP.out.trans HQ.out, by rw [HLZ.out]; rfl⟩⟩
    . have hqb := str_ne hq
      go_wp2_with (first
       | (refine atLoad 39 ?_; go_must (refine wpList_loadR rfl 39 (.tmp 12) rfl rfl _ hr (by kernel_rfl) (by exact info39) ?_))
       | (refine atStore 39 ?_; go_must (refine wpList_storeNew rfl 39 _ _ rfl _ _ _ _ rfl rfl (by exact info39) (by rfl) (by rfl) ?_)))
      go_roundw
      case rel =>
       refine ⟨t + 1, hlt, by simp, ?_, hb.alloc hb.size _, Z, HZ.out, Z4.out⟩
       unfold Hid; rw [HTK.out]
       intro y hy
       rcases List.mem_append.1 hy with h | h
       . exact hno.out y h
       . rw [List.mem_singleton] at h; subst h; rw [HP.out]; exact hq
      case measure => simp [intOf]; omega
  . have hte : t = n := by omega
    subst hte
    go_wp2_with (first
     | (refine atStore 39 ?_; go_must (refine wpList_storeB rfl 39 _ _ rfl (b := w.heap.size) rfl _ Z 39 rfl hZc (by exact info39) (by rw [hZ]; rfl) (by rfl) ?_); intro w10 j1 j2 j3 j4))
    refine bodyPost_ret (v := .tuple #[.agg _, _]) (results_cell_row2 rfl _ _ w.heap.size 39 _ (0, 0) _ rfl j1 Tryz.underlying39 rfl (by exact info39)) rfl ?_
    have hno := hno.out
    rw [HN.out, List.take_length] at hno
    exact ⟨hb.trans (j2 _ (Nat.le_refl _)), .inr ⟨hno, _, rfl⟩⟩
theorem zip_get (ds : List LeafD) (ls : List Nat) (h : ls.length = ds.length) (t : Nat) (d : LeafD) (ht : ds[t]? = some d) (j : Nat) (hj : j < 15) : ((List.zipWith leafV ds ls).flatten)[t * 15 + j]? = (leafV d (ls.getD t 0))[j]? := by
 induction ds generalizing ls t with
 | nil => simp at ht
 | cons x ds ih =>
   cases ls with
   | nil => simp at h
   | cons l ls =>
     simp only [List.zipWith_cons_cons, List.flatten_cons]
     have hx : (leafV x l).length = 15 := rfl
     cases t with
     | zero =>
       simp only [List.getElem?_cons_zero, Option.some.injEq] at ht
       subst ht
       rw [List.getElem?_append_left (by rw [hx]; omega)]
       simp
     | succ t =>
       rw [List.getElem?_append_right (by rw [hx]; omega), hx, show (t + 1) * 15 + j - 15 = t * 15 + j by omega]
       simp only [List.getElem?_cons_succ] at ht
       rw [ih ls (by simpa using h) t ht]
       simp
theorem leavesC_of {w : World} {B n co : Nat} {A : Option Addr} {us : List Value} {ds : List LeafD} (h : w.ownsRow B 39 15 (.slice A n co) n us) (hn : n = ds.length) (hR : LeafRow ds us) : ∃ ls, LeavesC w A ds ls := by
 obtain ⟨ls, hl, rfl⟩ := hR
 refine ⟨ls, fun t d ht => ?_⟩
 have htl := (List.getElem?_eq_some_iff.1 ht).1
 rcases h.2 with ⟨hv, h1⟩ | ⟨g, cap, cur, hv, hb, hg, _⟩
 . omega
 . injection hv with hv _ _
   subst hv
   refine ⟨g, rfl, (Array.getElem?_eq_some_iff.1 hg).1, fun j u hu => ?_⟩
   have hj : j < 15 := (List.getElem?_eq_some_iff.1 hu).1
   have := World.ownsRow.cells h (g := g) (by simp [Value.ownBlock]) (t * 15 + j) u (by rw [zip_get ds ls hl t d ht j hj]; exact hu)
   rwa [Addr.add_mid, Nat.zero_add] at this
structure LeafTells (x : File) (d : LeafD) : Prop where
 f : d.f = x
 nm : (Lib.Pa.els x.path.data.toList)[(Lib.Pa.els x.path.data.toList).length - 1]? = some d.nm
 data : x.dir = false -> isLink x = false -> ofL d.data = x.data /\ d.s = x.data.size
theorem cell_block {w : World} {b k : Nat} {cs : List Value} {t : TypeId} {v : Value} (h : w.heap[b]? = some (.cells cs.toArray t)) (hk : cs[k]? = some v) : w.cell? ⟨b, k, none⟩ = some v := by
 have := rangeAt_block h k v hk
 rwa [Nat.zero_add] at this
theorem sameWords_any (cap co n : Nat) (A A2 : Option Addr) (fs : List File) (ds : List LeafD) (ls : List Nat) (w : World) (hA : FilesR w w.heap.size A fs) (hcap : fs.length <= cap) (hC : LeavesC w A2 ds ls) (hn : n = ds.length) (hl3 : fs.length <= 1000) (hpm : ∀ f ∈ fs, bits .and .u32 (f.perm : Int) 511 = (f.perm : Int)) (hl2 : n <= 1000)
 (hp : ∀ f ∈ fs, f.path.size <= 10000) (hex : ∀ f ∈ fs, ∃ d ∈ ds, ofL d.path = f.path) (ht : ∀ f ∈ fs, ∀ d ∈ ds, ofL d.path = f.path -> LeafTells f d) :
 Calls Tryz.prog 14 #[.slice A fs.length cap, .slice A2 n co] w fun e w' => e = .returned (.bool true) /\ Below w.heap.size w w' := by
 have H38 : ∀ x ∈ fs, ∀ W, Below w.heap.size w W -> Calls Tryz.prog 38 #[.slice A2 n co, .string x.path] W fun e w' => Below W.heap.size W w' /\ ∃ p nm da s l, Hid (LeafTells x ⟨p, nm, x, s, da⟩) /\ e = .returned (.tuple #[.agg (leafZ (ofL p) (ofL nm) (ofL x.target.data.toList) (ofL da) x.dir (isLink x) x.perm s x.uid x.gid l x.time).toArray, .bool true]) := by
  intro x hx W hW
  refine (leafOf_any A2 n co ds ls x.path W (hC.later hW) hn hl2).mono ?_
  rintro e w' ⟨hb, (⟨d, l, hd, hq, rfl⟩ | ⟨hno, _⟩)⟩
  . have hT := ht x hx d hd hq
    obtain ⟨p, nm, f, s, da⟩ := d
    have e1 : f = x := hT.f
    subst e1
    exact ⟨hb, p, nm, da, s, l, hT, rfl⟩
  . obtain ⟨d, hd, hq⟩ := hex x hx
    exact absurd hq (hno d hd)
 have HA := Lib.hid hA; have H38' := Lib.hid H38; have HP := Lib.hid hp
 have HPM := Lib.hid hpm
 clear hA H38 hex ht hC hn hp hpm
 go_enter Tryz.func14, Tryz.ntmps14
 go_wp2_with (fail)
 go_loopw [6, 7, 8, 11] (fun _ _ _ iv wr => ∃ t : Nat, t <= fs.length /\ iv = .int .i64 t /\ Below w.heap.size w wr) (fun _ _ _ iv _ => fs.length - (intOf iv).toNat)
 case atStart => exact ⟨0, Nat.zero_le _, rfl, Below.refl _ _⟩
 case round =>
  obtain ⟨t, ht, rfl, hb⟩ := hrel
  by_cases hlt : t < fs.length
  . obtain ⟨x, hxe⟩ : ∃ x, fs[t] = x := ⟨_, rfl⟩
    have hxm : x ∈ fs := by rw [<- hxe]; exact List.getElem_mem hlt
    obtain ⟨b, o, rfl, hob, hcells⟩ := HA.out.keep hb (Nat.le_refl _) t hlt
    rw [hxe] at hcells
    have hpx := HPM.out x hxm
    have h38 := Lib.hid (H38'.out x hxm)
    clear hxm hxe
    go_upto_region 5 with (first
     | (go_at_call 38; go_must (refine (h38.out _ (hb.alloc hb.size _)).mono ?_); rintro e w3 ⟨hb3, p, nm, da, s, l, hT, rfl⟩; have hlt3 : wr.heap.size < w3.heap.size := Nat.lt_of_lt_of_le (by simp) hb3.size; have hX3 : w3.heap[wr.heap.size]? = some (.cells x.cells.toArray 37) := (hb3.block _ (by simp)).trans (heap_alloc_new wr _); have k0 : ∀ o : Obj, (w3.alloc o).cell? ⟨wr.heap.size, 0, none⟩ = some (.string x.path) := fun o => cell_block ((((Below.refl w3.heap.size w3).alloc (Nat.le_refl _) o).block _ hlt3).trans hX3) rfl)
     | (refine atLoad 37 ?_; go_must (refine wpList_loadFile rfl (.tmp 13) rfl rfl hcells ?_))
     | (refine atStore 39 ?_; go_must (refine wpList_storeNew rfl 39 _ _ rfl _ _ _ _ rfl rfl (by exact info39) (by rfl) (by rfl) ?_))
     | (refine atStore 37 ?_; go_must (refine wpList_storeNew rfl 37 _ _ rfl _ _ _ _ rfl rfl (by exact info37) (by rfl) (by rfl) ?_)))
    obtain ⟨w5, hw5⟩ : ∃ w5, w5 = w3.alloc (.cells (leafZ (ofL p) (ofL nm) (ofL x.target.data.toList) (ofL da) x.dir (isLink x) x.perm s x.uid x.gid l x.time).toArray 39) := ⟨_, rfl⟩
    have hX5 : w5.heap[wr.heap.size]? = some (.cells x.cells.toArray 37) := by rw [hw5]; exact (((Below.refl w3.heap.size w3).alloc (Nat.le_refl _) _).block _ hlt3).trans hX3
    have hL5 : w5.heap[w3.heap.size]? = some (.cells (leafZ (ofL p) (ofL nm) (ofL x.target.data.toList) (ofL da) x.dir (isLink x) x.perm s x.uid x.gid l x.time).toArray 39) := by rw [hw5]; exact heap_alloc_new w3 _
    have HB := Lib.hid (show Below w.heap.size w w5 by rw [hw5]; exact ((hb.alloc hb.size (.cells x.cells.toArray 37)).trans (hb3.mono (by have := hb.size; simp; omega))).alloc (by have := hb.size; omega) _)
    rw [<- hw5]
    have f3 := cell_block (k := 3) hX5 rfl
    have f4 := cell_block (k := 4) hX5 rfl
    have f5 := cell_block (k := 5) hX5 rfl
    have f6 := cell_block (k := 6) hX5 rfl
    have f7 := cell_block (k := 7) hX5 rfl
    have l5 := cell_block (k := 5) hL5 rfl
    have l7 := cell_block (k := 7) hL5 rfl
    have l8 := cell_block (k := 8) hL5 rfl
    have l9 := cell_block (k := 9) hL5 rfl
    have l12 := cell_block (k := 12) hL5 rfl
    have htg : ((ofL x.target.data.toList).toList == x.target.toList) = true := str_beq.2 (ba_ext (by simp [ofL]))
    have htg2 : (x.target.data.toList == x.target.toList) = true := by rw [Lib.toList_data]; exact beq_self_eq_true _
    clear hX5 hL5 hb3 hX3 k0 hcells hw5
    go_wp2_with (fail)
    go_roundw
    case rel => exact ⟨t + 1, hlt, by simp, HB.out⟩
    case measure => simp [intOf]; omega
  . go_wp2_with (fail)
    go_ret
    exact ⟨rfl, hb⟩
end Go.Proofs.YtilgpaeeleknhaaGreatDoor
