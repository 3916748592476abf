/-
  DERIVED. A part of the proof of laws.FnIsoPaths (for every input the law returns true and each argument reads as before; the listed variables read as listed when the call begins). It holds:
  · Walks: pathsHold.
  · Walks: pathsHold, of a directory.
-/
import Derived.Test.YtilgpaeeleknhaaGreatDoorIq26
import Derived.Test.YtilgpaeeleknhaaGreatDoorIq42
import Derived.Test.YtilgpaeeleknhaaGreatDoorIq35
import Derived.Test.YtilgpaeeleknhaaGreatDoorIq38
section
namespace Go.Proofs.YtilgpaeeleknhaaGreatDoor
open Go Go.RowKit
set_option linter.unusedSimpArgs false
set_option linter.unusedVariables false
/-- What pathsHold looks at in a leaf. -/
structure LeafW (l : List Value) (nm : ByteArray) (d : Bool) (sz : Int) : Prop where
  len : l.length = 15
  one : l.all (·.oneCell') = true
  nm : l[1]? = some (.string nm)
  d : l[2]? = some (.bool d)
  sz : l[6]? = some (.int .i64 sz)
abbrev q0 : ByteArray := ⟨#[81, 48]⟩
/-- Does y lie right below f? -/
def kidB (f y : File) : Bool := decide ((Lib.Pa.els y.p).length = (Lib.Pa.els f.p).length + 1 ∧ (cutLast y.p).1 = f.p)
def cntK (f : File) (fs : List File) : Nat := (fs.filter (kidB f)).length
theorem cntK_snoc (f y : File) (fs : List File) : cntK f (fs ++ [y]) = cntK f fs + (if kidB f y then 1 else 0) := by
  unfold cntK; rw [List.filter_append, List.length_append]; congr 1
  cases h : kidB f y <;> simp [h]
theorem cntK_le (f : File) (fs : List File) : cntK f fs ≤ fs.length := List.length_filter_le _ _
/-- parts, told by the last part alone. -/
theorem parts_last (s : ByteArray) (qs : List (List UInt8)) (l : List UInt8) (m : Nat) (hE : Lib.Pa.els s.data.toList = qs ++ [l]) (hm : qs.length = m) (h1 : s.size ≤ 100000) (W : World) :
    Calls Tryz.prog 22 #[.string s] W fun e w' => ∃ g co, e = .returned (.slice (some ⟨g, 0, none⟩) (m + 1 : Nat) co) ∧ w'.cell? ⟨g, m, none⟩ = some (.string (ofL l)) ∧ Below W.heap.size W w' := by
  have hEl : (Lib.Pa.els s.data.toList).length = m + 1 := by rw [hE, List.length_append, hm]; rfl
  refine (parts_any s W (by omega)).mono fun e w' h => ?_
  obtain ⟨A', co, h1, h2, h3⟩ := h
  rw [hEl] at h1 h2
  obtain ⟨g, rfl, _, _, hc⟩ := row_addr h2 (Nat.succ_pos _)
  exact ⟨g, co, h1, hc m (.string (ofL l)) (by rw [List.getElem?_map, hE, List.getElem?_append_right (by omega), ← hm, Nat.sub_self]; rfl), h3⟩
theorem parts_bd (s : ByteArray) (qs : List (List UInt8)) (l : List UInt8) (m : Nat) (hE : Lib.Pa.els s.data.toList = qs ++ [l]) (hm : qs.length = m) : m ≤ s.size := by
  have h := els_length s.data.toList
  rw [hE, List.length_append, hm, Array.length_toList] at h
  have h : m + 1 ≤ s.size + 1 := h
  omega
theorem FilesR.up {w : World} {B B' : Nat} {A : Option Addr} {fs : List File} (h : FilesR w B A fs) (hB : B ≤ B') : FilesR w B' A fs := by
  intro i hi
  obtain ⟨b, o, e, hlt, hr⟩ := h i hi
  exact ⟨b, o, e, Nat.lt_of_lt_of_le hlt hB, hr⟩
/-- What is asked of the two questions that pathsHold puts. -/
structure Asked (w : World) (C : Nat) (f : File) (nm : ByteArray) (sz : Int) (is2 : Bool) : Prop where
  h1 : ∀ W, Below w.heap.size w W → Calls Tryz.prog 17 #[.string f.path, PB C] W fun e w' => ∃ l : List Value, e = .returned (.tuple #[.agg l.toArray, .bool true]) ∧ LeafW l nm f.dir sz ∧ Below W.heap.size W w'
  h2 : ∀ W, Below w.heap.size w W → Calls Tryz.prog 17 #[.string (f.path ++ q0), PB C] W fun e w' => ∃ l : List Value, e = .returned (.tuple #[.agg l.toArray, .bool is2]) ∧ l.length = 15 ∧ l.all (·.oneCell') = true ∧ Below W.heap.size W w'
set_option maxRecDepth 1000000 in
set_option maxHeartbeats 8000000 in
theorem pathsHold_file (cap m C : Nat) (A : Option Addr) (fs : List File) (f : File) (qs : List (List UInt8)) (s : List UInt8) (is2 : Bool) (w : World) (hA : FilesR w w.heap.size A fs) (hl : fs.length ≤ 1000) (hcap : fs.length ≤ cap) (hlen : f.path.size ≤ 1000) (htg : f.target = ⟨#[]⟩)
    (hE : Lib.Pa.els f.p = qs ++ [s]) (hm : qs.length = m) (hQ : Asked w C f (ofL s) f.data.size is2) (hi2 : is2 = true → ∃ g ∈ fs, g.path = f.path ++ q0) (hd : f.dir = false) (hdt : f.data.size ≤ 100000)
    (h3 : ∀ W, Below w.heap.size w W → Calls Tryz.prog 19 #[.string f.path, PB C] W fun e w' => e = .returned (.tuple #[.slice none 0 0, .bool false]) ∧ Below W.heap.size W w') :
    Calls Tryz.prog 16 #[.slice A fs.length cap, .agg f.cells.toArray, .func (.func 17) #[] #[PB C], .func (.func 19) #[] #[PB C]] w fun e w' => e = .returned (.bool true) ∧ Below w.heap.size w w' := by
  have H1 := Lib.hid hQ.h1; have H2 := Lib.hid hQ.h2; have H3 := Lib.hid h3
  have HA := Lib.hid hA; have HI2 := Lib.hid hi2
  have hmb := parts_bd f.path qs s m hE hm
  have HP := Lib.hid (parts_last f.path qs s m hE hm (by omega))
  have HTG := Lib.hid htg; have HD := Lib.hid hd
  clear hQ h3 hA hi2 hE hm htg hd
  go_enter Tryz.func16, Tryz.ntmps16
  go_upto_region 3 with (first
    | (go_at_call 22; go_must (refine (HP.out _).mono ?_); rintro e w4 ⟨g4, co4, rfl, hc4, hb4⟩)
    | (refine atStore 39 ?_; go_must (refine wpList_storeNew rfl 39 _ _ rfl _ l.toArray _ _ rfl rfl (by rw [List.size_toArray, hL.len]; exact info39) (by simp [hL.len]) (by rw [List.toList_toArray]; exact hL.one) ?_))
    | (go_at_call 17; go_must (refine (H1.out _ ((Below.refl _ _).alloc (Nat.le_refl _) _)).mono ?_); rintro e w2 ⟨l, rfl, hL, hb2⟩; have hx2 : w.heap.size < w2.heap.size := Nat.lt_of_lt_of_le (by simp) hb2.size; have g0 : w2.cell? ⟨w.heap.size, 0, none⟩ = some (.string f.path) := ent_cell ((hb2.block w.heap.size (by simp)).trans (heap_alloc_new w _)) 0 _ rfl))
  have hx4 : w2.heap.size < w4.heap.size := Nat.lt_of_lt_of_le (by simp) hb4.size
  have r2 : w2.heap[w.heap.size]? = some (.cells f.cells.toArray 37) := (hb2.block w.heap.size (by simp)).trans (heap_alloc_new w _)
  have b24 : Below w2.heap.size w2 w4 := ((Below.refl w2.heap.size w2).alloc (Nat.le_refl _) _).trans (hb4.mono (by simp))
  have r4 : w4.heap[w.heap.size]? = some (.cells f.cells.toArray 37) := (b24.block w.heap.size hx2).trans r2
  have rx : w4.heap[w2.heap.size]? = some (.cells l.toArray 39) := (hb4.block w2.heap.size (by simp)).trans (heap_alloc_new w2 _)
  have f0 := ent_cell r4 0 _ rfl
  have f1 := ent_cell r4 1 _ rfl
  have f2 := ent_cell r4 2 _ rfl
  have f3 := ent_cell r4 3 _ rfl
  rw [HD.out] at f1
  rw [HTG.out] at f3
  have x1 := ent_cell rx 1 _ hL.nm
  have x2 := ent_cell rx 2 _ hL.d
  have x6 := ent_cell rx 6 _ hL.sz
  rw [HD.out] at x2
  obtain ⟨nm, hnm⟩ : ∃ nm, ofL s = nm := ⟨_, rfl⟩
  rw [hnm] at x1 hc4
  have hbw4 : Below w.heap.size w w4 := (((Below.refl w.heap.size w).alloc (Nat.le_refl _) _).trans (hb2.mono (by simp))).trans (b24.mono (Nat.le_of_lt hx2))
  have R4 := Lib.hid r4
  clear hL hb2 hb4 r2 r4 rx hnm b24 g0
  have hmI : (m : Int) ≤ 1000 := by omega
  go_quiet (fail)
  have h5 : Below w.heap.size w (w4.drewN nq) ∧ (w4.drewN nq).heap[w.heap.size]? = some (.cells f.cells.toArray 37) := ⟨below_drewN hbw4 _, R4.out⟩
  generalize w4.drewN nq = W at h5 ⊢
  have hbW := h5.1
  have f0 := ent_cell h5.2 0 _ rfl
  have R5 := Lib.hid h5.2
  have hWs : w.heap.size < W.heap.size := World.block_lt_of_cell? _ _ f0
  clear h5 f1 f2 f3 x1 x2 x6 hbw4 R4 hc4 hx2 hx4 H1
  go_upto_region 6 with (first
    | (refine atStore 39 ?_; go_must (refine wpList_storeNew rfl 39 _ _ rfl _ l2.toArray _ _ rfl rfl (by rw [List.size_toArray, hl2]; exact info39) (by simp [hl2]) (by rw [List.toList_toArray]; exact hl2o) ?_))
    | (go_at_call 17; go_must (refine (H2.out _ hbW).mono ?_); rintro e w6 ⟨l2, rfl, hl2, hl2o, hb6⟩))
  have hW6 : Below w.heap.size w w6 := hbW.trans (hb6.mono (Nat.le_of_lt hWs))
  have hW7 := hW6.alloc hW6.size (.cells l2.toArray 39)
  have r6 : w6.heap[w.heap.size]? = some (.cells f.cells.toArray 37) := (hb6.block w.heap.size hWs).trans R5.out
  have hs6 : w.heap.size < w6.heap.size := Nat.lt_of_lt_of_le hWs hb6.size
  have r7 : (w6.alloc (.cells l2.toArray 39)).heap[w.heap.size]? = some (.cells f.cells.toArray 37) := (((Below.refl w6.heap.size w6).alloc (Nat.le_refl _) (.cells l2.toArray 39)).block w.heap.size hs6).trans r6
  clear f0
  have h8 := And.intro hW7 r7
  clear hW7 r7
  generalize w6.alloc (Obj.cells l2.toArray 39) = V at h8 ⊢
  clear hb6 hW6 r6 hs6 hbW hWs
  have hbV := h8.1
  have f0 := ent_cell h8.2 0 _ rfl
  have R8 := Lib.hid h8.2
  have hVs : w.heap.size < V.heap.size := World.block_lt_of_cell? _ _ f0
  clear h8
  have hfin : ∀ U : World, Below V.heap.size V U → Below w.heap.size w U ∧ U.cell? ⟨w.heap.size, 0, none⟩ = some (.string f.path) ∧ U.cell? ⟨w.heap.size, 1, none⟩ = some (.bool false) := fun U hU => by
    have r := (hU.block w.heap.size hVs).trans R8.out
    refine ⟨hbV.trans (hU.mono (Nat.le_of_lt hVs)), ent_cell r 0 _ rfl, ?_⟩
    rw [← HD.out]; exact ent_cell r 1 _ rfl
  have HF := Lib.hid hfin
  clear hfin
  cases is2 with
  | false =>
    go_wp2_with (first
      | (go_at_call 19; go_must (refine (H3.out _ hbV).mono ?_); rintro e w9 ⟨rfl, hb9⟩; obtain ⟨hb10, g0, g1⟩ := HF.out _ hb9))
    go_ret
    exact ⟨rfl, hb10⟩
  | true =>
    have hth := HI2.out rfl
    have HTH := Lib.hid hth
    clear hth
    go_wp2_with (first
      | (go_at_call 19; go_must (refine (H3.out _ hb11).mono ?_); rintro e w9 ⟨rfl, hb9⟩; obtain ⟨hb10, g0, g1⟩ := HF.out _ (hb8.trans (hb9.mono hb8.size)))
      | (go_at_call 39; go_must (refine (thereIs_any cap A fs (f.path ++ q0) _ ((HA.out.keep hbV (Nat.le_refl _)).up hbV.size) (by omega) hcap).mono ?_); rintro e w8 ⟨⟨r, rfl, hr⟩, hb8⟩; have hrt : r = true := hr.2 HTH.out; subst hrt; clear hr; obtain ⟨hb11, g2, g3⟩ := HF.out _ hb8))
    go_ret
    exact ⟨rfl, hb10⟩
end Go.Proofs.YtilgpaeeleknhaaGreatDoor
end

section
namespace Go.Proofs.YtilgpaeeleknhaaGreatDoor
open Go Go.RowKit
set_option linter.unusedSimpArgs false
set_option linter.unusedVariables false
set_option maxRecDepth 1000000 in
set_option maxHeartbeats 8000000 in
theorem pathsHold_dir (cap m C : Nat) (sz : Int) (names : List ByteArray) (A : Option Addr) (fs : List File) (f : File) (qs : List (List UInt8)) (s : List UInt8) (is2 : Bool) (w : World) (hA : FilesR w w.heap.size A fs) (hl : fs.length ≤ 1000) (hcap : fs.length ≤ cap) (hlen : f.path.size ≤ 1000) (htg : f.target = ⟨#[]⟩)
    (hE : Lib.Pa.els f.p = qs ++ [s]) (hm : qs.length = m) (hQ : Asked w C f (ofL s) sz is2) (hi2 : is2 = true → ∃ g ∈ fs, g.path = f.path ++ q0) (hd : f.dir = true) (hyl : ∀ y ∈ fs, y.path.size ≤ 1000) (hnl : names.length ≤ 1000) (hn1 : ∀ y ∈ fs, kidB f y = true → ofL (cutLast y.p).2 ∈ names) (hn2 : names.length = cntK f fs)
    (h3 : ∀ W, Below w.heap.size w W → Calls Tryz.prog 19 #[.string f.path, PB C] W fun e w' => ∃ A co, e = .returned (.tuple #[.slice A names.length co, .bool true]) ∧ w'.ownsRow W.heap.size 9 1 (.slice A names.length co) names.length (names.map Value.string) ∧ Below W.heap.size W w') :
    Calls Tryz.prog 16 #[.slice A fs.length cap, .agg f.cells.toArray, .func (.func 17) #[] #[PB C], .func (.func 19) #[] #[PB C]] w fun e w' => e = .returned (.bool true) ∧ Below w.heap.size w w' := by
  have H1 := Lib.hid hQ.h1; have H2 := Lib.hid hQ.h2; have H3 := Lib.hid h3
  have hEl : (Lib.Pa.els f.p).length = m + 1 := by rw [hE, List.length_append, hm]; rfl
  have HEL := Lib.hid hEl; have HYL := Lib.hid hyl; have HN1 := Lib.hid hn1; have HN2 := Lib.hid hn2
  have HA := Lib.hid hA; have HI2 := Lib.hid hi2
  have hmb := parts_bd f.path qs s m hE hm
  have HP := Lib.hid (parts_last f.path qs s m hE hm (by omega))
  have HTG := Lib.hid htg; have HD := Lib.hid hd
  clear hQ h3 hA hi2 hE hm htg hd hEl hyl hn1 hn2
  go_enter Tryz.func16, Tryz.ntmps16
  go_upto_region 3 with (first
    | (go_at_call 22; go_must (refine (HP.out _).mono ?_); rintro e w4 ⟨g4, co4, rfl, hc4, hb4⟩)
    | (refine atStore 39 ?_; go_must (refine wpList_storeNew rfl 39 _ _ rfl _ l.toArray _ _ rfl rfl (by rw [List.size_toArray, hL.len]; exact info39) (by simp [hL.len]) (by rw [List.toList_toArray]; exact hL.one) ?_))
    | (go_at_call 17; go_must (refine (H1.out _ ((Below.refl _ _).alloc (Nat.le_refl _) _)).mono ?_); rintro e w2 ⟨l, rfl, hL, hb2⟩; have hx2 : w.heap.size < w2.heap.size := Nat.lt_of_lt_of_le (by simp) hb2.size; have g0 : w2.cell? ⟨w.heap.size, 0, none⟩ = some (.string f.path) := ent_cell ((hb2.block w.heap.size (by simp)).trans (heap_alloc_new w _)) 0 _ rfl))
  have hx4 : w2.heap.size < w4.heap.size := Nat.lt_of_lt_of_le (by simp) hb4.size
  have r2 : w2.heap[w.heap.size]? = some (.cells f.cells.toArray 37) := (hb2.block w.heap.size (by simp)).trans (heap_alloc_new w _)
  have b24 : Below w2.heap.size w2 w4 := ((Below.refl w2.heap.size w2).alloc (Nat.le_refl _) _).trans (hb4.mono (by simp))
  have r4 : w4.heap[w.heap.size]? = some (.cells f.cells.toArray 37) := (b24.block w.heap.size hx2).trans r2
  have rx : w4.heap[w2.heap.size]? = some (.cells l.toArray 39) := (hb4.block w2.heap.size (by simp)).trans (heap_alloc_new w2 _)
  have f0 := ent_cell r4 0 _ rfl
  have f1 := ent_cell r4 1 _ rfl
  have f2 := ent_cell r4 2 _ rfl
  have f3 := ent_cell r4 3 _ rfl
  rw [HD.out] at f1
  rw [HTG.out] at f3
  have x1 := ent_cell rx 1 _ hL.nm
  have x2 := ent_cell rx 2 _ hL.d
  have x6 := ent_cell rx 6 _ hL.sz
  rw [HD.out] at x2
  obtain ⟨nm, hnm⟩ : ∃ nm, ofL s = nm := ⟨_, rfl⟩
  rw [hnm] at x1 hc4
  have hbw4 : Below w.heap.size w w4 := (((Below.refl w.heap.size w).alloc (Nat.le_refl _) _).trans (hb2.mono (by simp))).trans (b24.mono (Nat.le_of_lt hx2))
  have R4 := Lib.hid r4
  clear hL hb2 hb4 r2 r4 rx hnm b24 g0
  have hmI : (m : Int) ≤ 1000 := by omega
  go_quiet (fail)
  have h5 : Below w.heap.size w (w4.drewN nq) ∧ (w4.drewN nq).heap[w.heap.size]? = some (.cells f.cells.toArray 37) := ⟨below_drewN hbw4 _, R4.out⟩
  generalize w4.drewN nq = W at h5 ⊢
  have hbW := h5.1
  have f0 := ent_cell h5.2 0 _ rfl
  have R5 := Lib.hid h5.2
  have hWs : w.heap.size < W.heap.size := World.block_lt_of_cell? _ _ f0
  clear h5 f1 f2 f3 x1 x2 x6 hbw4 R4 hc4 hx2 hx4 H1
  go_upto_region 6 with (first
    | (refine atStore 39 ?_; go_must (refine wpList_storeNew rfl 39 _ _ rfl _ l2.toArray _ _ rfl rfl (by rw [List.size_toArray, hl2]; exact info39) (by simp [hl2]) (by rw [List.toList_toArray]; exact hl2o) ?_))
    | (go_at_call 17; go_must (refine (H2.out _ hbW).mono ?_); rintro e w6 ⟨l2, rfl, hl2, hl2o, hb6⟩))
  have hW6 : Below w.heap.size w w6 := hbW.trans (hb6.mono (Nat.le_of_lt hWs))
  have hW7 := hW6.alloc hW6.size (.cells l2.toArray 39)
  have r6 : w6.heap[w.heap.size]? = some (.cells f.cells.toArray 37) := (hb6.block w.heap.size hWs).trans R5.out
  have hs6 : w.heap.size < w6.heap.size := Nat.lt_of_lt_of_le hWs hb6.size
  have r7 : (w6.alloc (.cells l2.toArray 39)).heap[w.heap.size]? = some (.cells f.cells.toArray 37) := (((Below.refl w6.heap.size w6).alloc (Nat.le_refl _) (.cells l2.toArray 39)).block w.heap.size hs6).trans r6
  clear f0
  have h8 := And.intro hW7 r7
  clear hW7 r7
  generalize w6.alloc (Obj.cells l2.toArray 39) = V at h8 ⊢
  clear hb6 hW6 r6 hs6 hbW hWs
  have hbV := h8.1
  have f0 := ent_cell h8.2 0 _ rfl
  have R8 := Lib.hid h8.2
  have hVs : w.heap.size < V.heap.size := World.block_lt_of_cell? _ _ f0
  clear h8
  have hfin : ∀ U : World, Below V.heap.size V U → Below w.heap.size w U ∧ U.cell? ⟨w.heap.size, 0, none⟩ = some (.string f.path) ∧ U.cell? ⟨w.heap.size, 1, none⟩ = some (.bool true) := fun U hU => by
    have r := (hU.block w.heap.size hVs).trans R8.out
    refine ⟨hbV.trans (hU.mono (Nat.le_of_lt hVs)), ent_cell r 0 _ rfl, ?_⟩
    rw [← HD.out]; exact ent_cell r 1 _ rfl
  have HF := Lib.hid hfin
  clear hfin
  cases is2 with
  | false =>
    go_wp2_with (first
      | (go_at_call 19; go_must (refine (H3.out _ hbV).mono ?_); rintro e w9 ⟨A9, co9, rfl, hO9, hb9⟩; obtain ⟨hb10, g0, g1⟩ := HF.out _ hb9))
    have HO9 := Lib.hid hO9
    have hnl' : names.length ≤ 100000 := by omega
    have hw9 : w.heap.size < w9.heap.size := World.block_lt_of_cell? _ _ g0
    clear hO9 g1
    go_loopw [16, 99] (fun nv iv wr => ∃ t n : Nat, t ≤ fs.length ∧ iv = .int .i64 t ∧ nv = .int .i64 n ∧ Hid (cntK f (fs.take t) = n) ∧ n ≤ t ∧ Below w9.heap.size w9 wr) (fun _ iv _ => fs.length - (intOf iv).toNat)
    case atStart => exact ⟨0, 0, Nat.zero_le _, rfl, rfl, rfl, Nat.le_refl _, Below.refl _ _⟩
    case round =>
      obtain ⟨t, n, ht, rfl, rfl, hcn, hnt, hb⟩ := hrel
      have hbwr : Below w.heap.size w wr := hb10.trans (hb.mono hb10.size)
      by_cases hlt : t < fs.length
      · obtain ⟨y, hy⟩ : ∃ y, fs[t] = y := ⟨_, rfl⟩
        obtain ⟨b, o, rfl, hob, hcells⟩ := HA.out.keep hbwr (Nat.le_refl _) t hlt
        rw [hy] at hcells
        have hym : y ∈ fs := by rw [← hy]; exact List.getElem_mem hlt
        have htk : fs.take (t + 1) = fs.take t ++ [y] := by rw [← List.take_append_getElem hlt, hy]
        have hyl := HYL.out y hym
        obtain ⟨qy, sy, hEy, hcy⟩ := els_cut y.path.data.toList
        obtain ⟨my, hmy⟩ : ∃ my, qy.length = my := ⟨_, rfl⟩
        have hmyb := parts_bd y.path qy sy my hEy hmy
        have HPY := Lib.hid (parts_last y.path qy sy my hEy hmy (by omega))
        have hEyl : (Lib.Pa.els y.p).length = my + 1 := by rw [show Lib.Pa.els y.p = qy ++ [sy] from hEy, List.length_append, hmy]; rfl
        have hc1 : (cutLast y.p).1 = joinP qy := by rw [show cutLast y.p = (joinP qy, sy) from hcy]
        have hc2 : (cutLast y.p).2 = sy := by rw [show cutLast y.p = (joinP qy, sy) from hcy]
        have HTK := Lib.hid htk; have HEYL := Lib.hid hEyl; have HC1 := Lib.hid hc1; have HC2 := Lib.hid hc2; have HYM := Lib.hid hym
        have hjy : joinP (qy ++ [sy]) = y.path.data.toList := by rw [← hEy]; exact joinP_els _
        have HJY := Lib.hid hjy; have HMY := Lib.hid hmy
        have p0 : wr.cell? ⟨w.heap.size, 0, none⟩ = some (.string f.path) := (hb.cell (p := ⟨w.heap.size, 0, none⟩) hw9).trans g0
        have hwr : w.heap.size < wr.heap.size := Nat.lt_of_lt_of_le hw9 hb.size
        clear hy htk hEy hcy hEyl hc1 hc2 hym hjy hmy
        go_upto_region 16 with (first
          | (go_at_call 22; go_must (refine (HPY.out _).mono ?_); rintro e w12 ⟨g12, co12, rfl, hc12, hb12⟩)
          | (refine atLoad 37 ?_; go_must (refine wpList_loadFile rfl (.tmp 101) rfl rfl hcells ?_))
          | (refine atStore 37 ?_; go_must (refine wpList_storeNew rfl 37 _ _ rfl _ _ _ _ rfl rfl (by exact info37) (by rfl) (by rfl) ?_)))
        have hFy : w12.rangeAt wr.heap.size 0 y.cells := rangeAt_keep (rangeAt_alloc wr y.cells 37) hb12 (by simp)
        have y0 : w12.cell? ⟨wr.heap.size, 0, none⟩ = some (.string y.path) := hFy 0 _ rfl
        have hbA : Below wr.heap.size wr w12 := ((Below.refl wr.heap.size wr).alloc (Nat.le_refl _) _).trans (hb12.mono (by simp))
        have p1 : w12.cell? ⟨w.heap.size, 0, none⟩ = some (.string f.path) := (hbA.cell (p := ⟨w.heap.size, 0, none⟩) hwr).trans p0
        have hb9A : Below w9.heap.size w9 w12 := hb.trans (hbA.mono hb.size)
        obtain ⟨st, hst⟩ : ∃ st, ofL sy = st := ⟨_, rfl⟩
        rw [hst] at hc12
        have HST := Lib.hid hst
        clear hFy hb12 hst p0 hcells
        by_cases hmm : my = m + 1
        · subst hmm
          have hqn : qy ≠ [] := by intro e; have := HMY.out; rw [e] at this; simp at this
          have hsp : (joinP qy).length + 1 + sy.length = y.path.size := by
            have h := congrArg List.length HJY.out
            rw [joinP_snoc qy sy hqn, List.length_append, List.length_cons, Array.length_toList] at h
            have h : (joinP qy).length + (sy.length + 1) = y.path.size := h
            omega
          obtain ⟨a, ha⟩ : ∃ a, (joinP qy).length = a := ⟨_, rfl⟩
          rw [ha] at hsp
          have hstz : st.size = sy.length := by rw [← HST.out, size_ofL]
          have hsa : a + 1 + st.size = y.path.size := by omega
          have hex : y.path.extract 0 a = ofL (joinP qy) := by
            have h := extract_head y.path (joinP qy) (47 :: sy) (by rw [← HJY.out, joinP_snoc qy sy hqn])
            rw [ha] at h; exact h
          obtain ⟨jq, hjq⟩ : ∃ jq, ofL (joinP qy) = jq := ⟨_, rfl⟩
          rw [hjq] at hex
          have hz1 : (y.path.size : Int) - (st.size : Int) - 1 = (a : Int) := by omega
          have hB1 : ((m : Int) + 1 + 1 == (m : Int) + 1 + 1) = true := by simp
          have haI : (0 : Int) ≤ a := by omega
          have hal : (a : Int) ≤ (y.path.size : Int) := by omega
          have HJQ := Lib.hid hjq
          clear hsp ha hstz hjq
          by_cases hpq : jq = f.path
          · have hB6 := str_beq.2 hpq
            have HPQ := Lib.hid hpq
            clear hpq
            go_quiet (fail)
            go_wp2_with (first
              | (go_at_call 40; go_must (refine (oneOf_any V.heap.size co9 A9 names st (w12.drewN nq) (ownsRow_later HO9.out (below_drewN hb9A _)) hnl').mono ?_); rintro e w14 ⟨⟨r, rfl, hr⟩, rfl⟩; have hrt : r = true := hr.2 (by have h := HN1.out y HYM.out (by unfold kidB; rw [HEYL.out, HEL.out, HC1.out, decide_eq_true_eq]; refine ⟨rfl, ?_⟩; have h := HJQ.out; rw [HPQ.out] at h; exact congrArg (fun z : ByteArray => z.data.toList) h); rw [HC2.out, HST.out] at h; exact h); subst hrt; clear hr))
            go_roundw
            case rel =>
              refine ⟨t + 1, n + 1, hlt, by simp, by simp, ?_, by omega, below_drewN hb9A _⟩
              unfold Hid; rw [HTK.out, cntK_snoc, hcn.out, if_pos]
              unfold kidB; rw [HEYL.out, HEL.out, HC1.out, decide_eq_true_eq]; refine ⟨rfl, ?_⟩; have h := HJQ.out; rw [HPQ.out] at h; exact congrArg (fun z : ByteArray => z.data.toList) h
            case measure => simp [intOf]; omega
          · have hB6 := str_ne hpq
            have HPQ := Lib.hid hpq
            clear hpq
            go_quiet (fail)
            go_wp2_with (fail)
            go_roundw
            case rel =>
              refine ⟨t + 1, n, hlt, by simp, rfl, ?_, by omega, below_drewN hb9A _⟩
              unfold Hid; rw [HTK.out, cntK_snoc, hcn.out, if_neg]
              · rfl
              · unfold kidB; rw [HC1.out, decide_eq_true_eq]; rintro ⟨_, h⟩; exact HPQ.out (by rw [← HJQ.out]; exact ba_ext h)
            case measure => simp [intOf]; omega
        · have hmI : ¬ ((my : Int) = (m : Int) + 1) := by omega
          have hB1 : ((my : Int) + 1 == (m : Int) + 1 + 1) = false := by simp; omega
          have hB2 : ((my : Int) == (m : Int) + 1) = false := by simp; omega
          have hB3 : decide ((my : Int) + 1 = (m : Int) + 1 + 1) = false := by simp; omega
          have hB4 : decide ((my : Int) = (m : Int) + 1) = false := by simp; omega
          have hB5 : ((my : Int) + 1 == (m : Int) + 2) = false := by simp; omega
          go_quiet (fail)
          go_wp2_with (fail)
          go_roundw
          case rel =>
            refine ⟨t + 1, n, hlt, by simp, rfl, ?_, by omega, below_drewN hb9A _⟩
            unfold Hid; rw [HTK.out, cntK_snoc, hcn.out, if_neg]
            · rfl
            · unfold kidB; rw [HEYL.out, HEL.out, decide_eq_true_eq]; rintro ⟨h, _⟩; omega
          case measure => simp [intOf]; omega
      · have hte : t = fs.length := by omega
        subst hte
        have hcn := hcn.out
        rw [List.take_length] at hcn
        have hnn : names.length = n := by rw [HN2.out, hcn]
        have hB1 : ((n : Int) == (names.length : Int)) = true := by simp; omega
        go_wp2_with (fail)
        go_ret
        exact ⟨rfl, hbwr⟩
  | true =>
    have hth := HI2.out rfl
    have HTH := Lib.hid hth
    clear hth
    go_wp2_with (first
      | (go_at_call 19; go_must (refine (H3.out _ hb11).mono ?_); rintro e w9 ⟨A9, co9, rfl, hO9, hb9⟩; obtain ⟨hb10, g0, g1⟩ := HF.out _ (hb8.trans (hb9.mono hb8.size)))
      | (go_at_call 39; go_must (refine (thereIs_any cap A fs (f.path ++ q0) _ ((HA.out.keep hbV (Nat.le_refl _)).up hbV.size) (by omega) hcap).mono ?_); rintro e w8 ⟨⟨r, rfl, hr⟩, hb8⟩; have hrt : r = true := hr.2 HTH.out; subst hrt; clear hr; obtain ⟨hb11, g2, g3⟩ := HF.out _ hb8))
    have HO9 := Lib.hid hO9
    have hnl' : names.length ≤ 100000 := by omega
    have hw9 : w.heap.size < w9.heap.size := World.block_lt_of_cell? _ _ g0
    clear hO9 g1
    go_loopw [16, 99] (fun nv iv wr => ∃ t n : Nat, t ≤ fs.length ∧ iv = .int .i64 t ∧ nv = .int .i64 n ∧ Hid (cntK f (fs.take t) = n) ∧ n ≤ t ∧ Below w9.heap.size w9 wr) (fun _ iv _ => fs.length - (intOf iv).toNat)
    case atStart => exact ⟨0, 0, Nat.zero_le _, rfl, rfl, rfl, Nat.le_refl _, Below.refl _ _⟩
    case round =>
      obtain ⟨t, n, ht, rfl, rfl, hcn, hnt, hb⟩ := hrel
      have hbwr : Below w.heap.size w wr := hb10.trans (hb.mono hb10.size)
      by_cases hlt : t < fs.length
      · obtain ⟨y, hy⟩ : ∃ y, fs[t] = y := ⟨_, rfl⟩
        obtain ⟨b, o, rfl, hob, hcells⟩ := HA.out.keep hbwr (Nat.le_refl _) t hlt
        rw [hy] at hcells
        have hym : y ∈ fs := by rw [← hy]; exact List.getElem_mem hlt
        have htk : fs.take (t + 1) = fs.take t ++ [y] := by rw [← List.take_append_getElem hlt, hy]
        have hyl := HYL.out y hym
        obtain ⟨qy, sy, hEy, hcy⟩ := els_cut y.path.data.toList
        obtain ⟨my, hmy⟩ : ∃ my, qy.length = my := ⟨_, rfl⟩
        have hmyb := parts_bd y.path qy sy my hEy hmy
        have HPY := Lib.hid (parts_last y.path qy sy my hEy hmy (by omega))
        have hEyl : (Lib.Pa.els y.p).length = my + 1 := by rw [show Lib.Pa.els y.p = qy ++ [sy] from hEy, List.length_append, hmy]; rfl
        have hc1 : (cutLast y.p).1 = joinP qy := by rw [show cutLast y.p = (joinP qy, sy) from hcy]
        have hc2 : (cutLast y.p).2 = sy := by rw [show cutLast y.p = (joinP qy, sy) from hcy]
        have HTK := Lib.hid htk; have HEYL := Lib.hid hEyl; have HC1 := Lib.hid hc1; have HC2 := Lib.hid hc2; have HYM := Lib.hid hym
        have hjy : joinP (qy ++ [sy]) = y.path.data.toList := by rw [← hEy]; exact joinP_els _
        have HJY := Lib.hid hjy; have HMY := Lib.hid hmy
        have p0 : wr.cell? ⟨w.heap.size, 0, none⟩ = some (.string f.path) := (hb.cell (p := ⟨w.heap.size, 0, none⟩) hw9).trans g0
        have hwr : w.heap.size < wr.heap.size := Nat.lt_of_lt_of_le hw9 hb.size
        clear hy htk hEy hcy hEyl hc1 hc2 hym hjy hmy
        go_upto_region 16 with (first
          | (go_at_call 22; go_must (refine (HPY.out _).mono ?_); rintro e w12 ⟨g12, co12, rfl, hc12, hb12⟩)
          | (refine atLoad 37 ?_; go_must (refine wpList_loadFile rfl (.tmp 101) rfl rfl hcells ?_))
          | (refine atStore 37 ?_; go_must (refine wpList_storeNew rfl 37 _ _ rfl _ _ _ _ rfl rfl (by exact info37) (by rfl) (by rfl) ?_)))
        have hFy : w12.rangeAt wr.heap.size 0 y.cells := rangeAt_keep (rangeAt_alloc wr y.cells 37) hb12 (by simp)
        have y0 : w12.cell? ⟨wr.heap.size, 0, none⟩ = some (.string y.path) := hFy 0 _ rfl
        have hbA : Below wr.heap.size wr w12 := ((Below.refl wr.heap.size wr).alloc (Nat.le_refl _) _).trans (hb12.mono (by simp))
        have p1 : w12.cell? ⟨w.heap.size, 0, none⟩ = some (.string f.path) := (hbA.cell (p := ⟨w.heap.size, 0, none⟩) hwr).trans p0
        have hb9A : Below w9.heap.size w9 w12 := hb.trans (hbA.mono hb.size)
        obtain ⟨st, hst⟩ : ∃ st, ofL sy = st := ⟨_, rfl⟩
        rw [hst] at hc12
        have HST := Lib.hid hst
        clear hFy hb12 hst p0 hcells
        by_cases hmm : my = m + 1
        · subst hmm
          have hqn : qy ≠ [] := by intro e; have := HMY.out; rw [e] at this; simp at this
          have hsp : (joinP qy).length + 1 + sy.length = y.path.size := by
            have h := congrArg List.length HJY.out
            rw [joinP_snoc qy sy hqn, List.length_append, List.length_cons, Array.length_toList] at h
            have h : (joinP qy).length + (sy.length + 1) = y.path.size := h
            omega
          obtain ⟨a, ha⟩ : ∃ a, (joinP qy).length = a := ⟨_, rfl⟩
          rw [ha] at hsp
          have hstz : st.size = sy.length := by rw [← HST.out, size_ofL]
          have hsa : a + 1 + st.size = y.path.size := by omega
          have hex : y.path.extract 0 a = ofL (joinP qy) := by
            have h := extract_head y.path (joinP qy) (47 :: sy) (by rw [← HJY.out, joinP_snoc qy sy hqn])
            rw [ha] at h; exact h
          obtain ⟨jq, hjq⟩ : ∃ jq, ofL (joinP qy) = jq := ⟨_, rfl⟩
          rw [hjq] at hex
          have hz1 : (y.path.size : Int) - (st.size : Int) - 1 = (a : Int) := by omega
          have hB1 : ((m : Int) + 1 + 1 == (m : Int) + 1 + 1) = true := by simp
          have haI : (0 : Int) ≤ a := by omega
          have hal : (a : Int) ≤ (y.path.size : Int) := by omega
          have HJQ := Lib.hid hjq
          clear hsp ha hstz hjq
          by_cases hpq : jq = f.path
          · have hB6 := str_beq.2 hpq
            have HPQ := Lib.hid hpq
            clear hpq
            go_quiet (fail)
            go_wp2_with (first
              | (go_at_call 40; go_must (refine (oneOf_any w8.heap.size co9 A9 names st (w12.drewN nq) (ownsRow_later HO9.out (below_drewN hb9A _)) hnl').mono ?_); rintro e w14 ⟨⟨r, rfl, hr⟩, rfl⟩; have hrt : r = true := hr.2 (by have h := HN1.out y HYM.out (by unfold kidB; rw [HEYL.out, HEL.out, HC1.out, decide_eq_true_eq]; refine ⟨rfl, ?_⟩; have h := HJQ.out; rw [HPQ.out] at h; exact congrArg (fun z : ByteArray => z.data.toList) h); rw [HC2.out, HST.out] at h; exact h); subst hrt; clear hr))
            go_roundw
            case rel =>
              refine ⟨t + 1, n + 1, hlt, by simp, by simp, ?_, by omega, below_drewN hb9A _⟩
              unfold Hid; rw [HTK.out, cntK_snoc, hcn.out, if_pos]
              unfold kidB; rw [HEYL.out, HEL.out, HC1.out, decide_eq_true_eq]; refine ⟨rfl, ?_⟩; have h := HJQ.out; rw [HPQ.out] at h; exact congrArg (fun z : ByteArray => z.data.toList) h
            case measure => simp [intOf]; omega
          · have hB6 := str_ne hpq
            have HPQ := Lib.hid hpq
            clear hpq
            go_quiet (fail)
            go_wp2_with (fail)
            go_roundw
            case rel =>
              refine ⟨t + 1, n, hlt, by simp, rfl, ?_, by omega, below_drewN hb9A _⟩
              unfold Hid; rw [HTK.out, cntK_snoc, hcn.out, if_neg]
              · rfl
              · unfold kidB; rw [HC1.out, decide_eq_true_eq]; rintro ⟨_, h⟩; exact HPQ.out (by rw [← HJQ.out]; exact ba_ext h)
            case measure => simp [intOf]; omega
        · have hmI : ¬ ((my : Int) = (m : Int) + 1) := by omega
          have hB1 : ((my : Int) + 1 == (m : Int) + 1 + 1) = false := by simp; omega
          have hB2 : ((my : Int) == (m : Int) + 1) = false := by simp; omega
          have hB3 : decide ((my : Int) + 1 = (m : Int) + 1 + 1) = false := by simp; omega
          have hB4 : decide ((my : Int) = (m : Int) + 1) = false := by simp; omega
          have hB5 : ((my : Int) + 1 == (m : Int) + 2) = false := by simp; omega
          go_quiet (fail)
          go_wp2_with (fail)
          go_roundw
          case rel =>
            refine ⟨t + 1, n, hlt, by simp, rfl, ?_, by omega, below_drewN hb9A _⟩
            unfold Hid; rw [HTK.out, cntK_snoc, hcn.out, if_neg]
            · rfl
            · unfold kidB; rw [HEYL.out, HEL.out, decide_eq_true_eq]; rintro ⟨h, _⟩; omega
          case measure => simp [intOf]; omega
      · have hte : t = fs.length := by omega
        subst hte
        have hcn := hcn.out
        rw [List.take_length] at hcn
        have hnn : names.length = n := by rw [HN2.out, hcn]
        have hB1 : ((n : Int) == (names.length : Int)) = true := by simp; omega
        go_wp2_with (fail)
        go_ret
        exact ⟨rfl, hbwr⟩

end Go.Proofs.YtilgpaeeleknhaaGreatDoor
end
