/- A part of the proof of laws.FnIsoRock (see the last text). -/
import Derived.Test.YtilgpaeeleknhaaGreatDoorJr38
import Derived.Test.YtilgpaeeleknhaaGreatDoorJr36
import Derived.LaidEql
set_option linter.unusedSimpArgs false
set_option linter.unusedVariables false
set_option maxRecDepth 1000000
set_option maxHeartbeats 8000000
namespace Go.Proofs.YtilgpaeeleknhaaGreatDoor
open Go Go.RowKit
theorem fsw_other {w w' : World} {F M D PT RD x : Nat} {img : List UInt8} {ms : List Node} {ds : List Nat} {cs : Array Value} (h : FsW w F M D PT RD img ms ds) (hx : w.heap[x]? = some (.cells cs 76)) (h4 : cs.size = 4) (hv : ∀ (k b : Nat), cs[k]? ≠ some (PB b)) (hv' : ∀ (k : Nat) (s : ByteArray), cs[k]? ≠ some (.string s)) (hM : M ≠ x) (hD : D ≠ x) (ho : ∀ k, k ≠ x -> w'.heap[k]? = w.heap[k]?) (hs : w.heap.size <= w'.heap.size) : FsW w' F M D PT RD img ms ds := by
 have hcell : ∀ k j, k ≠ x -> w'.cell? ⟨k, j, none⟩ = w.cell? ⟨k, j, none⟩ := fun k j hk => by simp only [World.cell?, ho k hk]
 have cx : ∀ j, w.cell? ⟨x, j, none⟩ = cs[j]? := fun j => by simp [World.cell?, hx]
 have hF : F ≠ x := by
  rintro rfl
  have := h.p.blk
  rw [cx, Array.getElem?_eq_none (by omega)] at this
  cases this
 obtain ⟨r, h1, h2, x0, a, X, c2, ht, hE⟩ := h.rootat
 obtain ⟨bs, g, co, p1, p2, p3, p4⟩ := h.ptat
 have hR : RD ≠ x := by rintro rfl; rw [hx] at hE; injection hE with hE; injection hE with _ hE; exact absurd hE (by decide)
 have hP : PT ≠ x := by rintro rfl; rw [hx] at p1; injection p1 with p1; injection p1 with _ p1; exact absurd p1 (by decide)
 refine ⟨⟨(hcell F _ hF).trans h.p.blk, (hcell F _ hF).trans h.p.sus, (hcell F _ hF).trans h.p.exts⟩, Nat.lt_of_lt_of_le h.mlt hs, Nat.lt_of_lt_of_le h.dlt hs, (hcell F _ hF).trans h.back, ⟨?_, fun j u hu => (hcell D j hD).trans (h.mem.bytes j u hu)⟩, (hcell F _ hF).trans h.work, (hcell F _ hF).trans h.jol, (hcell F _ hF).trans h.pt, ⟨bs, g, co, (ho PT hP).trans p1, Nat.lt_of_lt_of_le p2 hs, ?_, p4.1, fun k hk hk' => ?_⟩, (hcell F _ hF).trans h.root, ⟨r, h1, h2, x0, a, X, c2, ht, (ho RD hR).trans hE⟩, ?_⟩
 . obtain ⟨c, q1, q2⟩ := h.mem.data
   exact ⟨c, q1, (hcell M 0 hM).trans q2⟩
 . intro k b hk
   have e := p3 k b hk
   have hg : g ≠ x := by rintro rfl; rw [cx] at e; exact hv k b e
   exact (hcell g k hg).trans e
 . have e := p4.2 k hk hk'
   refine (ho _ ?_).trans e
   intro e2; rw [e2, hx] at e; injection e with e; injection e with _ e; exact absurd e (by decide)
 . obtain ⟨V, s, l1, l2⟩ := h.lab
   have hVx : V ≠ x := by rintro rfl; rw [cx] at l2; exact hv' 1 s l2
   exact ⟨V, s, (hcell F _ hF).trans l1, (hcell V _ hVx).trans l2⟩
theorem roads_gen (I n c : Nat) (img : List UInt8) (w : World) (P : World -> Nat -> Nat -> Nat -> Prop) (hP1 : ∀ W W' F M D, P W F M D -> Below W.heap.size W W' -> P W' F M D)
 (hP2 : ∀ W W' F M D x, P W F M D -> W.heap[x]? = some (.cells #[.nilFunc, .nilFunc, .nilFunc, .nilFunc] 76) -> M ≠ x -> D ≠ x -> (∀ k, k ≠ x -> W'.heap[k]? = W.heap[k]?) -> W.heap.size <= W'.heap.size -> P W' F M D)
 (hrd : Rd w w.heap.size (.slice (some ⟨I, 0, none⟩) n c) img) (hn : img.length = n) (hlen : img.length <= 1000000000)
 (h60 : ∀ W M D, Below w.heap.size w W -> MemAt W M D img -> M < W.heap.size -> D < W.heap.size -> Calls Tryz.prog 60 #[.iface 107 (PB M), .int .i64 n, .int .i64 0, .int .i64 2048] W fun e w' => ∃ F, e = .returned (.tuple #[PB F, .nilIface]) /\ P w' F M D /\ Below W.heap.size W w') :
 Calls Tryz.prog 36 #[.slice (some ⟨I, 0, none⟩) n c, .int .i64 2048] w fun e w' => ∃ F M D, P w' F M D /\ Below w.heap.size w w' /\ ∃ B, w'.heap[B]? = some (.cells #[PB F] 102) /\ e = .returned (.tuple #[.agg #[.func (.func 62) #[PB F] #[], .func (.func 63) #[PB F] #[], .func (.func 64) #[PB F] #[], .func (.func 65) #[] #[PB B]], .bool true]) := by
 have HRD := Lib.hid hrd
 have H60 := Lib.hid h60; have HP1 := Lib.hid hP1; have HP2 := Lib.hid hP2
 have KR : ∀ W, Below w.heap.size w W -> Rd W w.heap.size (.slice (some ⟨I, 0, none⟩) n c) img := fun W h => hrd.keep h (Nat.le_refl _)
 have HKR := Lib.hid KR
 obtain ⟨st, hst⟩ : ∃ st, ofL img = st := ⟨_, rfl⟩
 have hs1 : st.size <= 1000000000 := by rw [<- hst, size_ofL]; exact hlen
 have hs2 : st.data.toList = img := by subst hst; first | done | rfl | simp [ofL]
 have HST := Lib.hid hst; have HS2 := Lib.hid hs2
 clear hrd KR h60 hst hs2 hlen hP1 hP2
 go_enter Tryz.func36, Tryz.ntmps36
 go_wp2_with (first
  | (refine atConvert 27 9 ?_; refine asList rfl fun KK hKK => ?_; go_must (refine wp_toStr (.tmp 9) rfl (fun b => b < w.heap.size) _ img rfl (HKR.out _ ((Below.refl _ _).alloc (Nat.le_refl _) _)) ?_); rw [HST.out]; refine hKK _ _ ?_; clear hKK KK)
  | (go_at_call 60; go_must (refine (H60.out w3 M D (((Below.refl w.heap.size w).alloc (Nat.le_refl _) _).trans (hb3.mono (by simp))) (by have := hMm; rw [HS2.out] at this; exact this) hM3 hD3).mono ?_); rintro e w4 ⟨F, rfl, hF, hb4⟩; have hx4 : w.heap.size < w4.heap.size := Nat.lt_of_lt_of_le (by simp) (Nat.le_trans hb3.size hb4.size); have r4 := (hb4.block w.heap.size (Nat.lt_of_lt_of_le (by simp) hb3.size)).trans r3; have r9 := Lib.hid ((((Below.refl w4.heap.size w4).alloc (Nat.le_refl _) (Obj.cells #[PB F] 102)).block w.heap.size hx4).trans r4))
  | (refine atStore 76 ?_; refine wpList_storeB rfl 76 _ _ rfl (b := w.heap.size) rfl _ _ 76 rfl r9.out (by kernel_rfl) (by rfl) (by rfl) ?_; intro w10 g1 g2 g3 g4)
  | (go_at_call 61; go_must (refine (memoryOf_any st _ hs1).mono ?_); rintro e w3 ⟨M, D, rfl, hMm, hM3, hD3, hM1, hD1, hb3⟩; have r3 := (hb3.block w.heap.size (by simp)).trans (heap_alloc_new w _)))
 refine bodyPost_ret (v := .tuple #[.agg #[_, _, _, _], _]) (results_cell_row2 rfl _ _ w.heap.size 76 #[_, _, _, _] (0, 0) _ rfl g1 Tryz.underlying76 rfl (by kernel_rfl)) rfl ?_
 have hbA : Below w.heap.size w w3 := ((Below.refl w.heap.size w).alloc (Nat.le_refl _) _).trans (hb3.mono (by simp))
 have hbB : Below w.heap.size w w4 := hbA.trans (hb4.mono hbA.size)
 have hbC := hbB.alloc hbB.size (Obj.cells #[PB F] 102)
 have hF5 := HP1.out _ _ _ _ _ hF ((Below.refl w4.heap.size w4).alloc (Nat.le_refl _) (Obj.cells #[PB F] 102))
 have hM1' : w.heap.size + 1 <= M := by simpa using hM1
 have hD1' : w.heap.size + 1 <= D := by simpa using hD1
 exact ⟨F, M, D, HP2.out _ _ _ _ _ _ hF5 r9.out (by omega) (by omega) g3 (Nat.le_of_eq g4.symm), hbC.trans (g2 _ (Nat.le_refl _)), w4.heap.size, (g3 _ (by omega)).trans (heap_alloc_new w4 _), rfl⟩
theorem fsw_nil {W W' : World} {F M D PT RD x : Nat} {img : List UInt8} {ms : List Node} {ds : List Nat} (h : FsW W F M D PT RD img ms ds) (hx : W.heap[x]? = some (.cells #[.nilFunc, .nilFunc, .nilFunc, .nilFunc] 76)) (hM : M ≠ x) (hD : D ≠ x) (ho : ∀ k, k ≠ x -> W'.heap[k]? = W.heap[k]?) (hs : W.heap.size <= W'.heap.size) : FsW W' F M D PT RD img ms ds := by
 refine fsw_other h hx rfl ?_ ?_ hM hD ho hs
 . intro k b e
   rcases k with _ | _ | _ | _ | k <;> simp at e
 . intro k s e
   rcases k with _ | _ | _ | _ | k <;> simp at e
abbrev RoadsV (F B : Nat) : Value := .agg #[.func (.func 62) #[PB F] #[], .func (.func 63) #[PB F] #[], .func (.func 64) #[PB F] #[], .func (.func 65) #[] #[PB B]]
theorem conv_own {w : World} {B g n c : Nat} {l : List UInt8} (h : Own w B (.slice (some ⟨g, 0, none⟩) n c) l) (hl : l.length = n) : (convert 27 9 (.slice (some ⟨g, 0, none⟩) n c)).run Tryz.prog w = .ok (.string (ofL l)) w := by
 subst hl
 exact run_convert_bytes_back (P := Tryz.prog) w 27 9 5 ⟨g, 0, none⟩ c l Tryz.underlying27 Tryz.underlying5 Tryz.underlying9 (fun j hj => by
  rw [Addr.add_mid, Nat.zero_add]; exact h.cell j hj)
def S65 (w : World) (X b n g B : Nat) (l : List UInt8) (W : World) : Prop := Own W B (.slice (some ⟨g, 0, none⟩) n n) l /\ (∃ cl, W.heap[X]? = some (.cells (fileC b n cl).toArray 118)) /\ Below w.heap.size w W
theorem S65.close {w : World} {X b n g B : Nat} {l : List UInt8} {W : World} (h : S65 w X b n g B l W) (hX : w.heap.size <= X) (hXB : X < B) : S65 w X b n g B l (W.setCell ⟨X, 4, none⟩ (.bool true)) := by
 obtain ⟨h1, ⟨cl, h2⟩, h3⟩ := h
 refine ⟨own_blk h1 (fun k hk => heap_setCell_other W ⟨X, 4, none⟩ k _ (by have := World.ownsRow.lt h1 k hk; show k ≠ X; omega)), ⟨true, ?_⟩, h3.setCell hX _⟩
 exact heap_setCell_same W X 4 _ 118 (.bool true) h2
theorem S65.drew {w : World} {X b n g B : Nat} {l : List UInt8} {W : World} (h : S65 w X b n g B l W) : S65 w X b n g B l W.drew := ⟨own_blk h.1 (fun k _ => rfl), h.2.1, h.2.2.drew⟩
theorem comp214 : (Tryz.prog.info? 214).map (·.comparable) = some true := by kernel_rfl
theorem has216 : (Tryz.prog.info? 216).isSome = true := by kernel_rfl
theorem eof_eq (E : Addr) (w : World) : (binOp .eql 104 (EofV E) (EofV E)).run Tryz.prog w = .ok (.bool true) w := by
 obtain ⟨i, hi, hc⟩ : ∃ i, Tryz.prog.info? 214 = some i /\ i.comparable = true := by
  cases h : Tryz.prog.info? 214 with
  | none => have := comp214; rw [h] at this; cases this
  | some i => have := comp214; rw [h] at this; exact ⟨i, rfl, by simpa using this⟩
 obtain ⟨j, hj⟩ := Option.isSome_iff_exists.1 has216
 exact run_eql_iface_ptr_same w E Tryz.underlying104 Tryz.underlying214 hi hc hj
theorem as113 (v : Value) (w : World) : (Instr.typeAssert (.iface 113 v) 110 113 true).run Tryz.prog w = .ok (.tuple #[v, .bool true]) w := by kernel_rfl
theorem clo65_any (F M D PT RD Bc n L : Nat) (E : Addr) (r : Rec) (p : ByteArray) (img : List UInt8) (ms : List Node) (ds : List Nat) (w : World) (hW : FsW w F M D PT RD img ms ds) (hBc : w.cell? ⟨Bc, 0, none⟩ = some (PB F)) (hrn : r.s = n) (hrl : r.e = L) (h0 : 0 < n) (hn : n <= 2000000) (hL : L < 400000) (hfit : L * 2048 + n <= img.length) (hlen : img.length <= 1000000000) (hG : w.cell? ⟨0, 0, none⟩ = some (EofV E))
 (h66 : ∀ W, Below w.heap.size w W -> Calls Tryz.prog 66 #[PB F, .string p] W fun e w' => ∃ X b, e = .returned (.tuple #[.iface 113 (PB X), .nilIface]) /\ w'.heap[X]? = some (.cells (fileC b 0 false).toArray 118) /\ EntAt w' b r (PB F) /\ W.heap.size <= X /\ Below W.heap.size W w') :
 Calls Tryz.prog 65 #[.string p, .int .i64 0, .int .i64 (-1), PB Bc] w fun e w' => e = .returned (.tuple #[.string (ofL ((img.drop (L * 2048)).take n)), .bool true]) /\ Below w.heap.size w w' := by
 have H66 := Lib.hid h66; have HRN := Lib.hid hrn; have HRL := Lib.hid hrl
 have HK := Lib.hid (fun W (h : Below w.heap.size w W) => hW.later h)
 have hFl := hW.lt
 have q113 := as113
 have h0l : 0 < w.heap.size := cell_lt hG
 have hbl : ((img.drop (L * 2048)).take n).length = n := by rw [List.length_take, List.length_drop]; omega
 have HBL := Lib.hid hbl
 have HG := Lib.hid hG
 clear hW h66 hrn hrl hbl hG
 go_enter Tryz.func65, Tryz.ntmps65
 go_upto_region 12 with (first
  | (go_at_call 68; go_must (refine (seek0_any X b _ HX.out).mono ?_); rintro e w4 ⟨rfl, h4⟩; have h4' := h4.symm; subst h4')
  | (go_at_call 67; go_must (refine (size_any _ b r _ HE.out (by rw [HRN.out]; omega)).mono ?_); rintro e w3 ⟨rfl, h3⟩; have h3' := h3.symm; subst h3'; rw [HRN.out])
  | (go_at_call 66; go_must (refine (H66.out _ (Below.refl _ _)).mono ?_); rintro e w2 ⟨X, b, rfl, hX, hE, hXw, hb2⟩; have HX := Lib.hid hX; have HE := Lib.hid hE; have x0 := ent_cell hX 0 _ rfl; clear hX hE))
 rw [show min (n : Int) 16777216 = (n : Int) from by omega]
 have hX2 : X < w2.heap.size := cell_lt x0
 have hb2' : b < w2.heap.size := HE.out.lt
 go_upto_region 14 with (first
  | (at_make; refine asList rfl fun KK hKK => ?_; go_must (refine go_makeN (w0 := w2) (.tmp 53) (.tmp 53) rfl w2.heap.size _ _ _ _ n n rfl rfl rfl rfl (Nat.le_refl _) (by omega) (Below.refl _ _) (Nat.le_refl _) ?_); intro w5 Lz hLz hlz hO5 hb5 hs5; refine hKK _ _ ?_; clear hKK KK))
 have hb52 : Below w.heap.size w w5 := hb2.trans (hb5.mono hb2.size)
 have hW5 := HK.out _ hb52
 have x5 := (hb5.block X hX2).trans HX.out
 have hE5 := HE.out.keep hb5 hb2'
 have g5 : w5.cell? ⟨0, 0, none⟩ = some (EofV E) := (hb52.cell (p := ⟨0, 0, none⟩) h0l).trans HG.out
 have hF2 : F < w2.heap.size := Nat.lt_of_lt_of_le hFl hb2.size
 have hX0 : 0 < X := Nat.lt_of_lt_of_le h0l hXw
 have HFR : Calls Tryz.prog 69 #[PB X, .slice (some ⟨w2.heap.size, 0, none⟩) n n] w5 fun e w' => e = .returned (.tuple #[.int .i64 n, EofV E]) /\ Own w' w2.heap.size (.slice (some ⟨w2.heap.size, 0, none⟩) n n) ((img.drop (L * 2048)).take n) /\ w'.heap[X]? = some (.cells (fileC b n false).toArray 118) /\ ∀ K, K <= X -> Below K w5 w' :=
  fread_any F M D PT RD X b w2.heap.size n n w2.heap.size L E r Lz img ms ds w5 hW5 x5 hE5 HRN.out HRL.out h0 hn hL hfit hlen hX2 hb2' hF2 hb5.size hlz.out hO5 g5 hX0
 have HFRR := Lib.hid HFR
 have hnB : ((n : Int) == 0) = false := by simp; omega
 clear HFR hW5 x5 hE5 hO5 hlz hLz g5 hs5
 refine wp_loop_rounds 1 ?_
 rw [rounds_succ]
 go_upto_region 17 with (first
  | (go_at_call 69; go_must (refine HFRR.out.mono ?_); rintro e w6 ⟨rfl, hO6, x6, hs6⟩))
 have hb6 : Below w.heap.size w w6 := hb52.trans (hs6 _ hXw)
 have g6 : w6.cell? ⟨0, 0, none⟩ = some (EofV E) := (hb6.cell (p := ⟨0, 0, none⟩) h0l).trans HG.out
 have q214 := eof_eq E w6
 go_upto_region 20 with (fail)
 have hS6 : S65 w X b n w2.heap.size w2.heap.size ((img.drop (L * 2048)).take n) w6 := ⟨hO6, ⟨_, x6⟩, hb6⟩
 have hcv : ∀ W, S65 w X b n w2.heap.size w2.heap.size ((img.drop (L * 2048)).take n) W -> (convert 27 9 (.slice (some ⟨w2.heap.size, 0, none⟩) n n)).run Tryz.prog W = .ok (.string (ofL ((img.drop (L * 2048)).take n))) W := fun W h => conv_own h.1 HBL.out
 have h70 : ∀ W, S65 w X b n w2.heap.size w2.heap.size ((img.drop (L * 2048)).take n) W -> Calls Tryz.prog 70 #[PB X] W fun e w' => e = .returned .nilIface /\ S65 w X b n w2.heap.size w2.heap.size ((img.drop (L * 2048)).take n) w' := fun W h => by
  obtain ⟨cl, h2⟩ := h.2.1
  refine (close_any X b n cl W h2).mono ?_
  rintro e w' ⟨rfl, rfl⟩
  exact ⟨rfl, h.close hXw hX2⟩
 obtain ⟨st, hste⟩ : ∃ st, ofL ((img.drop (L * 2048)).take n) = st := ⟨_, rfl⟩
 generalize hSS : S65 w X b n w2.heap.size w2.heap.size ((img.drop (L * 2048)).take n) = SS at hS6 hcv h70
 rw [hste] at hcv
 have hdr : ∀ W, SS W -> SS W.drew := fun W h => by rw [<- hSS] at h ⊢; exact h.drew
 have HSS := Lib.hid hSS; have H70 := Lib.hid h70; have HDR := Lib.hid hdr; have HCV := Lib.hid hcv; have HSTE := Lib.hid hste
 have hnn : (n : Int) <= (n : Int) := Int.le_refl _
 have hn0 : (0 : Int) <= (n : Int) := by omega
 clear hSS h70 hdr hcv hste hO6 x6 hs6 hb6 g6 q214
 go_region_held3 (fun W => SS W /\ (convert 27 9 (.slice (some ⟨w2.heap.size, 0, none⟩) n n)).run Tryz.prog W = .ok (.string st) W) (first | exact ⟨hS6, HCV.out _ hS6⟩ | exact ⟨HDR.out _ hS6, HCV.out _ (HDR.out _ hS6)⟩ | exact ⟨hSx, HCV.out _ hSx⟩ | go_keep) (first
  | (go_at_call 70; go_must (refine (H70.out _ (by first | assumption | exact HDR.out _ hS6)).mono ?_); rintro e w8 ⟨rfl, hSx⟩))
 have hSx' := hSx
 rw [<- HSS.out] at hSx'
 have HB := Lib.hid hSx'.2.2
 clear hSx' hSx hS6
 go_wp2
 go_ret2
 have h := HSTE.out
 subst h
 exact ⟨rfl, HB.out⟩
theorem label_any (F V : Nat) (s : ByteArray) (w : World) (h7 : w.cell? ⟨F, 7, none⟩ = some (PB V)) (h1 : w.cell? ⟨V, 1, none⟩ = some (.string s)) : Calls Tryz.prog 62 #[PB F] w fun e w' => e = .returned (.string s) /\ w' = w := by
 go_enter Tryz.func62, Tryz.ntmps62
 go_wp2
 go_ret
 exact ⟨rfl, rfl⟩
theorem info39z : (Tryz.prog.info? 39).map (fun i => (i.zero.map (·.cells.size), i.size, i.bytes)) = some (some 15, 15, 120) := by kernel_rfl
theorem under30 : Tryz.prog.underlying 30 = some (.slice 39) := by kernel_rfl
theorem go_app39 {o : Oper} {a : Act} {w wa : World} {K : Act -> World -> Prop} {Q : Exit -> Act -> World -> Prop} (s x : Operand) (ho : o.op = .call { callee := .builtin .append, args := #[s, x], argTypes := #[30, 30] })
 (N : Nat) (us : List Value) (hul : us.length = 15) (hu1 : ∀ u ∈ us, u.oneCell' = true) (hs : a.eval s = .slice none 0 0) (hwa : Below w.heap.size w wa) (hwc : wa.heap[w.heap.size]? = some (.cells us.toArray 39)) (hsz : w.heap.size = N) (hx : a.eval x = .slice (some ⟨N, 0, none⟩) 1 1)
 (h : ∀ g c w', w'.ownsRow w.heap.size 39 15 (.slice (some ⟨g, 0, none⟩) 1 c) 1 us -> Below w.heap.size w w' -> K (a.put o.dst (.slice (some ⟨g, 0, none⟩) 1 c)) w') : Oper.wp Tryz.prog o a wa K Q := by
 obtain ⟨i, z, hi, hz, hzs, hsi, hby⟩ := infoz info39z
 subst hsz
 refine wp_append_own (P := Tryz.prog) _ s x 30 ho w.heap.size 39 i z 15 120 under30 hi hz hsi hby hzs (by decide) _ _ _ hs (World.ownsRow_nil wa w.heap.size 39 15) ⟨w.heap.size, 0, none⟩ 1 1 us hx (by rw [hul]) ?_ hu1 (by unfold maxLen; omega) (by omega) hwa.size ?_
 . intro j u hu
   rw [Addr.add_mid, Nat.zero_add]
   simp only [World.cell?, hwc]
   simpa using hu
 . intro v' w' hrow hgr _
   obtain ⟨A, c, rfl, hAg, _⟩ := ownsRow_shape hrow
   obtain ⟨g', rfl⟩ := hAg (by omega)
   exact h g' c w' hrow (hwa.grown hgr hwa.size (fun j hj => by simp [Value.ownBlock] at hj))
abbrev leafD (path nm : ByteArray) (r : Rec) (tm : Int) (dt : ByteArray) : List Value := [.string path, .string nm, .bool r.d, .bool false, .bool false, .int .u32 493, .int .i64 r.s, .int .i64 tm, .int .u32 0, .int .u32 0, .int .u32 0, .int .u32 0, .string ⟨#[]⟩, .string ⟨#[]⟩, .string dt]
theorem leafD_one (path nm : ByteArray) (r : Rec) (tm : Int) (dt : ByteArray) : ∀ u ∈ leafD path nm r tm dt, u.oneCell' = true := by
 intro u hu
 simp only [leafD, List.mem_cons, List.not_mem_nil, or_false] at hu
 rcases hu with rfl | rfl | rfl | rfl | rfl | rfl | rfl | rfl | rfl | rfl | rfl | rfl | rfl | rfl | rfl <;> rfl
theorem walk1_any (F Bc : Nat) (r : Rec) (tn dt : ByteArray) (w : World) (hF : FsP w F false) (hn : r.name.size <= 1000) (hs : r.s < 4294967296) (hd : r.d = false) (ht : r.told = tn)
 (h63 : ∀ W, Below w.heap.size w W -> Calls Tryz.prog 63 #[PB F, SV [46]] W fun e w' => ListR W w' F [r] e)
 (h64 : ∀ W, Below w.heap.size w W -> Calls Tryz.prog 64 #[PB F, .string tn] W fun e w' => ∃ b, e = .returned (.tuple #[IB b, .nilIface]) /\ EntAt w' b r (PB F) /\ Below W.heap.size W w')
 (h65 : ∀ W, Below w.heap.size w W -> Calls Tryz.prog 65 #[.string tn, .int .i64 0, .int .i64 (-1), PB Bc] W fun e w' => e = .returned (.tuple #[.string dt, .bool true]) /\ Below W.heap.size W w') :
 Calls Tryz.prog 71 #[RoadsV F Bc, .string ⟨#[46]⟩, .slice none 0 0] w fun e w' => ∃ g c, e = .returned (.tuple #[.slice (some ⟨g, 0, none⟩) 1 c, .bool true]) /\ w'.cell? ⟨g, 14, none⟩ = some (.string dt) /\ Below w.heap.size w w' := by
 have H63 := Lib.hid h63; have H64 := Lib.hid h64; have H65 := Lib.hid h65; have HT := Lib.hid ht; have HD := Lib.hid hd
 have HK := Lib.hid (fun W (h : Below w.heap.size w W) => hF.later h)
 clear h63 h64 h65 ht hd hF
 have hb1 : Below w.heap.size w (w.alloc (.cells #[.func (.func 62) #[PB F] #[], .func (.func 63) #[PB F] #[], .func (.func 64) #[PB F] #[], .func (.func 65) #[] #[PB Bc]] 76)) := (Below.refl _ _).alloc (Nat.le_refl _) _
 go_enter Tryz.func71, Tryz.ntmps71
 go_upto_region 5 with (first
  | (go_at_call 63; go_must (refine (H63.out _ hb1).mono ?_); rintro e w2 ⟨A, co, bs, rfl, hO, hE, hB, hb2⟩))
 have hw1 : w.heap.size < w2.heap.size := Nat.lt_of_lt_of_le (by simp) hb2.size
 have hbw2 : Below w.heap.size w w2 := hb1.trans (hb2.mono (by simp))
 have r2 : w2.heap[w.heap.size]? = some (.cells #[.func (.func 62) #[PB F] #[], .func (.func 63) #[PB F] #[], .func (.func 64) #[PB F] #[], .func (.func 65) #[] #[PB Bc]] 76) := (hb2.block w.heap.size (by simp)).trans (heap_alloc_new w _)
 obtain ⟨g, rfl, hg1, hg2, hgc⟩ := row_addr hO (by simp)
 obtain ⟨b, rfl⟩ : ∃ b, bs = [b] := by
  have := hE.1
  match bs, this with
  | [b], _ => exact ⟨b, rfl⟩
 have hEb := hE.2 0 b r rfl rfl
 have hp0 := hgc 0 (IB b) rfl
 have f11 := (HK.out _ hbw2).sus
 have m1 := method_Name ⟨b, 0, none⟩
 have c2 : w2.cell? ⟨w.heap.size, 2, none⟩ = some (.func (.func 64) #[PB F] #[]) := by simp only [World.cell?, r2]; rfl
 have hNM : Calls Tryz.prog 89 #[PB b] w2 fun e w' => e = .returned (.string tn) /\ w' = w2 := by rw [<- HT.out]; exact name_any w2 b F r hEb f11 hn
 have HNM := Lib.hid hNM; have R2 := Lib.hid r2
 clear hNM hEb hO hE hB hgc f11 hb2 r2
 refine wp_loop_rounds 2 ?_
 rw [rounds_succ]
 go_upto_region 13 with (first
  | (go_at_call 64; go_must (refine (H64.out _ hbw2).mono ?_); rintro e w4 ⟨b4, rfl, hE4, hb4⟩)
  | (go_at_call 89; go_must (refine HNM.out.mono ?_); rintro e w3 ⟨rfl, h3⟩; have h3' := h3.symm; subst h3'))
 have hb24 : Below w.heap.size w w4 := hbw2.trans (hb4.mono hbw2.size)
 have f4 := (HK.out _ hb24).sus
 have r4 := (hb4.block w.heap.size hw1).trans R2.out
 have R4 := Lib.hid r4
 clear r4 c2
 go_upto_region 14 with (first
  | (refine atStore 39 ?_; go_must (refine wpList_storeNew rfl 39 _ _ rfl _ (leafC tn r.told r (wrap64 (x - 62135596800))).toArray _ _ rfl rfl (by exact info39) (by rfl) (by rfl) ?_))
  | (go_at_call 72; go_must (refine (leaf_any tn w4 b4 F r hE4 f4 hn hs).mono ?_); rintro e w5 ⟨x, a, rfl, htm, hb5⟩))
 have hw4 : w.heap.size < w4.heap.size := Nat.lt_of_lt_of_le hw1 hb4.size
 have hw5 : w.heap.size < w5.heap.size := Nat.lt_of_lt_of_le hw4 hb5.size
 have hb25 : Below w.heap.size w w5 := hb24.trans (hb5.mono hb24.size)
 have r5 := (hb5.block w.heap.size hw4).trans R4.out
 obtain ⟨tm, htm'⟩ : ∃ tm, wrap64 (x - 62135596800) = tm := ⟨_, rfl⟩
 rw [htm']
 have r6 : (w5.alloc (.cells (leafC tn r.told r tm).toArray 39)).heap[w.heap.size]? = some (.cells #[.func (.func 62) #[PB F] #[], .func (.func 63) #[PB F] #[], .func (.func 64) #[PB F] #[], .func (.func 65) #[] #[PB Bc]] 76) := (((Below.refl w5.heap.size w5).alloc (Nat.le_refl _) _).block w.heap.size hw5).trans r5
 have x6 : (w5.alloc (.cells (leafC tn r.told r tm).toArray 39)).heap[w5.heap.size]? = some (.cells (leafC tn r.told r tm).toArray 39) := heap_alloc_new w5 _
 have hb26 : Below w.heap.size w (w5.alloc (.cells (leafC tn r.told r tm).toArray 39)) := hb25.alloc hb25.size _
 obtain ⟨X, hX⟩ : ∃ X, w5.heap.size = X := ⟨_, rfl⟩
 have hs6 : (w5.alloc (.cells (leafC tn r.told r tm).toArray 39)).heap.size = X + 1 := by rw [<- hX]; simp
 rw [hX] at x6 hw5 ⊢
 rw [HT.out] at x6 r6 hb26 hs6 ⊢
 clear hb4 hb5 hb24 hb25 r5 htm' htm hE4 f4 hw4 R4 hX
 generalize w5.alloc (.cells (leafC tn tn r tm).toArray 39) = w6 at r6 x6 hb26 hs6 ⊢
 have l2 := ent_cell x6 2 _ rfl
 have l3 := ent_cell x6 3 _ rfl
 have l4 := ent_cell x6 4 _ rfl
 rw [HD.out] at l2
 have c3 : w6.cell? ⟨w.heap.size, 3, none⟩ = some (.func (.func 65) #[] #[PB Bc]) := by simp only [World.cell?, r6]; rfl
 have X6 := Lib.hid x6; have R6 := Lib.hid r6
 clear x6 r6
 go_upto_region 15 with (fail)
 have hXl : X < w6.heap.size := by omega
 clear l2 l3 l4
 go_upto_region 16 with (first
  | (go_at_call 65; go_must (refine (H65.out _ hb26).mono ?_); rintro e w7 ⟨rfl, hb7⟩; have x7 := (hb7.block X hXl).trans X6.out; have c14 := ent_cell x7 14 _ rfl; have fr := ent_frozen x7 14))
 have x8 : (w7.setCell ⟨X, 14, none⟩ (.string dt)).heap[X]? = some (.cells (leafD tn tn r tm dt).toArray 39) := heap_setCell_same w7 X 14 _ 39 (.string dt) x7
 have hwX : w.heap.size <= X := Nat.le_of_lt hw5
 have hb27 : Below w.heap.size w w7 := hb26.trans (hb7.mono hb26.size)
 have hb28 : Below w.heap.size w (w7.setCell ⟨X, 14, none⟩ (.string dt)) := hb27.setCell hwX _
 clear x7 c14 fr hb7 hb27 c3
 generalize w7.setCell ⟨X, 14, none⟩ (.string dt) = w8 at x8 hb28 ⊢
 have l2 := ent_cell x8 2 _ rfl
 rw [HD.out] at l2
 have X8 := Lib.hid x8
 have hX8 : X < w8.heap.size := cell_lt l2
 clear x8
 go_upto_region 17 with (first
  | (refine atLoad 39 ?_; go_must (refine wpList_loadB rfl 39 _ rfl (b := X) rfl (leafD tn tn r tm dt) 39 X8.out (by kernel_rfl) (by exact info39) ?_))
  | (at_builtin; refine asList rfl fun KK hKK => ?_; go_must (refine go_app39 (w := w8) (.tmp 80) (.tmp 82) rfl w8.heap.size (leafD tn tn r tm dt) rfl (leafD_one _ _ _ _ _) rfl ((Below.refl _ _).alloc (Nat.le_refl _) _) (by show (w8.heap.push _)[w8.heap.size]? = _; rw [Array.getElem?_push_size]) rfl rfl ?_); intro g9 c9 w9 hO9 hb9; refine hKK _ _ ?_; clear hKK KK))
 have l9 : w9.cell? ⟨X, 2, none⟩ = some (.bool false) := (hb9.cell (p := ⟨X, 2, none⟩) hX8).trans l2
 have d9 : w9.cell? ⟨g9, 14, none⟩ = some (.string dt) := by
  have := World.ownsRow.cells hO9 (g := g9) rfl 14 (.string dt) rfl
  rwa [Addr.add_mid, Nat.zero_add] at this
 have hb29 : Below w.heap.size w w9 := hb28.trans (hb9.mono hb28.size)
 have HD9 := Lib.hid d9
 clear l2 hO9 d9 hb9
 go_wp2
 rw [rounds_succ]
 go_wp2
 go_ret2
 exact ⟨g9, c9, rfl, HD9.out, hb29⟩
theorem opened_gen (F Bc V : Nat) (lab : ByteArray) (Q : World -> Option Addr -> Nat -> Nat -> Prop) (w : World) (h7 : w.cell? ⟨F, 7, none⟩ = some (PB V)) (h1 : w.cell? ⟨V, 1, none⟩ = some (.string lab))
 (h71 : ∀ W, Below w.heap.size w W -> Calls Tryz.prog 71 #[RoadsV F Bc, .string ⟨#[46]⟩, .slice none 0 0] W fun e w' => ∃ A n c, e = .returned (.tuple #[.slice A n c, .bool true]) /\ Q w' A n c /\ Below W.heap.size W w') :
 Calls Tryz.prog 37 #[RoadsV F Bc] w fun e w' => ∃ A n c, e = .returned (.tuple #[.string lab, .slice A n c, .bool true, .bool true]) /\ Q w' A n c /\ Below w.heap.size w w' := by
 have H71 := Lib.hid h71; have H7 := Lib.hid h7; have H1 := Lib.hid h1
 have hFl : F < w.heap.size := cell_lt h7
 have hVl : V < w.heap.size := cell_lt h1
 clear h71 h7 h1
 go_enter Tryz.func37, Tryz.ntmps37
 go_wp2_with (first
  | (go_at_call 62; go_must (refine (label_any F V lab _ ((hbw3.cell (p := ⟨F, 7, none⟩) hFl).trans H7.out) ((hbw3.cell (p := ⟨V, 1, none⟩) hVl).trans H1.out)).mono ?_); rintro e w5 ⟨rfl, h5⟩; have h5' := h5.symm; subst h5')
  | (go_at_call 71; go_must (refine (H71.out _ ((Below.refl _ _).alloc (Nat.le_refl _) _)).mono ?_); rintro e w3 ⟨g, qn, c, rfl, hd, hb3⟩; have hbw3 : Below w.heap.size w w3 := ((Below.refl w.heap.size w).alloc (Nat.le_refl _) _).trans (hb3.mono (by simp)); have r3 := (hb3.block w.heap.size (by simp)).trans (heap_alloc_new w _); have c0 : w3.cell? ⟨w.heap.size, 0, none⟩ = some (.func (.func 62) #[PB F] #[]) := (by simp only [World.cell?, r3]; rfl); have HD3 := Lib.hid hd; clear hd r3 hb3)
  | (refine atLoad 76 ?_; refine wpList_loadB rfl 76 _ rfl (b := w.heap.size) rfl _ 76 (heap_alloc_new w _) (by kernel_rfl) (by kernel_rfl) ?_))
 refine bodyPost_ret (v := .tuple #[_, _, _, _]) (results_tmp4 rfl _ _ _) rfl ?_
 exact ⟨g, qn, c, rfl, HD3.out, hbw3⟩
theorem isoOpen_gen (I n c : Nat) (img : List UInt8) (w : World) (P : World -> Nat -> Nat -> Nat -> Prop) (Q : World -> Option Addr -> Nat -> Nat -> Prop) (hP1 : ∀ W W' F M D, P W F M D -> Below W.heap.size W W' -> P W' F M D)
 (hP2 : ∀ W W' F M D x, P W F M D -> W.heap[x]? = some (.cells #[.nilFunc, .nilFunc, .nilFunc, .nilFunc] 76) -> M ≠ x -> D ≠ x -> (∀ k, k ≠ x -> W'.heap[k]? = W.heap[k]?) -> W.heap.size <= W'.heap.size -> P W' F M D)
 (hP3 : ∀ W F M D, P W F M D -> ∃ V lab, W.cell? ⟨F, 7, none⟩ = some (PB V) /\ W.cell? ⟨V, 1, none⟩ = some (.string lab))
 (hrd : Rd w w.heap.size (.slice (some ⟨I, 0, none⟩) n c) img) (hn : img.length = n) (hlen : img.length <= 1000000000)
 (h60 : ∀ W M D, Below w.heap.size w W -> MemAt W M D img -> M < W.heap.size -> D < W.heap.size -> Calls Tryz.prog 60 #[.iface 107 (PB M), .int .i64 n, .int .i64 0, .int .i64 2048] W fun e w' => ∃ F, e = .returned (.tuple #[PB F, .nilIface]) /\ P w' F M D /\ Below W.heap.size W w')
 (h71 : ∀ F M D Bc W, Below w.heap.size w W -> P W F M D -> W.cell? ⟨Bc, 0, none⟩ = some (PB F) -> Calls Tryz.prog 71 #[RoadsV F Bc, .string ⟨#[46]⟩, .slice none 0 0] W fun e w' => ∃ A n c, e = .returned (.tuple #[.slice A n c, .bool true]) /\ Q w' A n c /\ Below W.heap.size W w') :
 Calls Tryz.prog 12 #[.slice (some ⟨I, 0, none⟩) n c, .int .i64 2048] w fun e w' => ∃ lab A n c, e = .returned (.tuple #[.string lab, .slice A n c, .bool true, .bool true]) /\ Q w' A n c /\ Below w.heap.size w w' := by
 have HR := Lib.hid (roads_gen I n c img w P hP1 hP2 hrd hn hlen h60)
 have H71 := Lib.hid h71; have HP1 := Lib.hid hP1; have HP3 := Lib.hid hP3
 clear hrd h71 hP1 hP2 hP3 h60
 go_enter Tryz.func12, Tryz.ntmps12
 go_wp2_with (first
  | (go_at_call 37; go_must (refine (opened_gen F B V lab Q w5 l1 l2 (fun W h => H71.out F M D B W (hbA5.trans (h.mono hbA5.size)) (HP1.out _ _ _ _ _ hF5 h) ((h.cell (p := ⟨B, 0, none⟩) (cell_lt cB)).trans cB))).mono ?_); rintro e w6 ⟨g, qn, c9, rfl, hd, hb6⟩; have HD6 := Lib.hid hd; clear hd)
  | (go_at_call 36; go_must (refine HR.out.mono ?_); rintro e w3 ⟨F, M, D, hF, hb3, B, hB, rfl⟩; have r76 := heap_alloc_new w3 (.cells #[.nilFunc, .nilFunc, .nilFunc, .nilFunc] 76))
  | (refine atStore 76 ?_; refine wpList_storeB rfl 76 _ _ rfl (b := w3.heap.size) rfl _ _ 76 rfl r76 (by kernel_rfl) (by rfl) (by rfl) ?_; intro w5 g1 g2 g3 g4; have hb35 : Below w3.heap.size w3 w5 := ((Below.refl _ _).alloc (Nat.le_refl _) _).trans (g2 _ (Nat.le_refl _)); have hF5 := HP1.out _ _ _ _ _ hF hb35; have hbA5 : Below w.heap.size w w5 := hb3.trans (hb35.mono hb3.size); have cB : w5.cell? ⟨B, 0, none⟩ = some (PB F) := ent_cell (cs := [PB F]) ((hb35.block B (Array.getElem?_eq_some_iff.1 hB).1).trans hB) 0 _ rfl; obtain ⟨V, lab, l1, l2⟩ := HP3.out _ _ _ _ hF5)
  | (refine atLoad 76 ?_; refine wpList_loadB rfl 76 _ rfl (b := w3.heap.size) rfl _ 76 g1 (by kernel_rfl) (by kernel_rfl) ?_))
 refine bodyPost_ret (v := .tuple #[_, _, _, _]) (results_tmp4 rfl _ _ _) rfl ?_
 exact ⟨lab, g, qn, c9, rfl, HD6.out, hbA5.trans (hb6.mono hbA5.size)⟩
theorem isoOpen1_any (I n c pt li : Nat) (dt : ByteArray) (img vol : List UInt8) (r : Rec) (ms : List Node) (ds : List Nat) (w : World) (hrd : Rd w w.heap.size (.slice (some ⟨I, 0, none⟩) n c) img) (hn : img.length = n) (hI : IsoD img vol r pt li ms ds)
 (h71 : ∀ F M D PT RD Bc W, Below w.heap.size w W -> FsW W F M D PT RD img ms ds -> W.cell? ⟨Bc, 0, none⟩ = some (PB F) -> Calls Tryz.prog 71 #[RoadsV F Bc, .string ⟨#[46]⟩, .slice none 0 0] W fun e w' => ∃ g c, e = .returned (.tuple #[.slice (some ⟨g, 0, none⟩) 1 c, .bool true]) /\ w'.cell? ⟨g, 14, none⟩ = some (.string dt) /\ Below W.heap.size W w') :
 Calls Tryz.prog 12 #[.slice (some ⟨I, 0, none⟩) n c, .int .i64 2048] w fun e w' => ∃ lab g c, e = .returned (.tuple #[.string lab, .slice (some ⟨g, 0, none⟩) 1 c, .bool true, .bool true]) /\ w'.cell? ⟨g, 14, none⟩ = some (.string dt) /\ Below w.heap.size w w' := by
 refine (isoOpen_gen I n c img w (fun W F M D => ∃ PT RD, FsW W F M D PT RD img ms ds) (fun w' A m k => m = 1 /\ ∃ g, A = some ⟨g, 0, none⟩ /\ w'.cell? ⟨g, 14, none⟩ = some (.string dt)) (fun W W' F M D ⟨PT, RD, h⟩ hb => ⟨PT, RD, h.later hb⟩) ?_ (fun W F M D ⟨PT, RD, h⟩ => h.lab) hrd hn hI.len (fun W M D hW hm hM hD => ?_) (fun F M D Bc W hW ⟨PT, RD, h⟩ hB => ?_)).mono ?_
 . rintro W W' F M D x ⟨PT, RD, h⟩ hx hM hD ho hs
   exact ⟨PT, RD, fsw_nil h hx hM hD ho hs⟩
 . refine (read_any M D n pt li img vol r ms ds W hm hM hD hn hI).mono ?_
   rintro e w' ⟨F, PT, RD, rfl, h, hb⟩
   exact ⟨F, rfl, ⟨PT, RD, h⟩, hb⟩
 . refine (h71 F M D PT RD Bc W hW h hB).mono ?_
   rintro e w' ⟨g, c, rfl, h1, h2⟩
   exact ⟨_, 1, c, rfl, ⟨rfl, g, rfl, h1⟩, h2⟩
 . rintro e w' ⟨lab, A, m, c, rfl, ⟨rfl, g, rfl, h1⟩, hb⟩
   exact ⟨lab, g, c, rfl, h1, hb⟩
end Go.Proofs.YtilgpaeeleknhaaGreatDoor
