/- A part of the proof of laws.FnIsoRock (see the last text). -/
import Derived.Test.YtilgpaeeleknhaaGreatDoorJr25
import Derived.Test.YtilgpaeeleknhaaGreatDoorJr21
set_option linter.unusedSimpArgs false
set_option linter.unusedVariables false
set_option maxRecDepth 1000000
set_option maxHeartbeats 8000000
namespace Go.Proofs.YtilgpaeeleknhaaGreatDoor
open Go Go.RowKit
section
def PtAt (w : World) (PT : Nat) (ms : List Node) (ds : List Nat) : Prop :=
 ∃ bs g co, w.heap[PT]? = some (.cells #[.slice (some ⟨g, 0, none⟩) ds.length co] 243) /\ g < w.heap.size /\ (∀ k b, bs[k]? = some b -> w.cell? ⟨g, k, none⟩ = some (PB b)) /\ Boxes w 241 bs (ds.map (ptE ms))
theorem PtAt.later {w w' : World} {PT : Nat} {ms : List Node} {ds : List Nat} (h : PtAt w PT ms ds) (hb : Below w.heap.size w w') : PtAt w' PT ms ds := by
 obtain ⟨bs, g, co, h1, h2, h3, h4⟩ := h
 refine ⟨bs, g, co, ?_, Nat.lt_of_lt_of_le h2 hb.size, fun k b hk => ?_, h4.later hb⟩
 . rw [hb.block _ (Array.getElem?_eq_some_iff.1 h1).1]; exact h1
 . rw [hb.cell (p := ⟨g, k, none⟩) h2]; exact h3 k b hk
theorem PtAt.entry {w : World} {PT : Nat} {ms : List Node} {ds : List Nat} (h : PtAt w PT ms ds) : ∃ g co, w.cell? ⟨PT, 0, none⟩ = some (.slice (some ⟨g, 0, none⟩) ds.length co) /\ g < w.heap.size /\ ∀ k d, ds[k]? = some d -> ∃ b, w.cell? ⟨g, k, none⟩ = some (PB b) /\ b < w.heap.size /\ w.cell? ⟨b, 3, none⟩ = some (.int .u32 (nodeAt ms d).extent) /\ w.cell? ⟨b, 4, none⟩ = some (.int .u16 (nodeAt ms (parOf ms d)).number) /\ w.cell? ⟨b, 5, none⟩ = some (.string (ofL (pathId ms d))) := by
 obtain ⟨bs, g, co, h1, h2, h3, h4⟩ := h
 refine ⟨g, co, by simp [World.cell?, h1], h2, fun k d hk => ?_⟩
 have hkl := (List.getElem?_eq_some_iff.1 hk).1
 have hkb : k < bs.length := by rw [h4.1, List.length_map]; exact hkl
 have hb := h4.2 k hkb (by rw [List.length_map]; exact hkl)
 rw [List.getElem_map, (List.getElem?_eq_some_iff.1 hk).2] at hb
 refine ⟨bs[k], h3 k _ (List.getElem?_eq_getElem hkb), (Array.getElem?_eq_some_iff.1 hb).1, ?_, ?_, ?_⟩ <;> simp [World.cell?, hb, ptE]
theorem ptLoc_dot (PT : Nat) (ms : List Node) (ds : List Nat) (w : World) (h : PtAt w PT ms ds) (h0 : 0 < ds.length) (hd0 : ds.getD 0 0 = 0) (hx : (nodeAt ms 0).extent < 4294967296) :
 Calls Tryz.prog 132 #[PB PT, SV [46]] w fun e w' => e = .returned (.int .u32 (nodeAt ms 0).extent) /\ Below w.heap.size w w' := by
 have HP := Lib.hid h
 clear h
 have hd : ds[0]? = some 0 := by
  rw [List.getD_eq_getElem?_getD, List.getElem?_eq_getElem h0] at hd0
  rw [List.getElem?_eq_getElem h0]; simpa using hd0
 go_enter Tryz.func132, Tryz.ntmps132
 go_wp2_with (go_at_call 148; refine (splitPath_any [[46]] _ (by simp) (by simp) (by decide)).mono ?_; rintro e w2 ⟨A, co, rfl, hO, hb2⟩; obtain ⟨g, rfl, _, hgl, hc⟩ := row_addr hO (by decide); have c0 := hc 0 _ rfl; obtain ⟨gp, pc, p0, _, hp⟩ := (HP.out.later hb2).entry; obtain ⟨b, p1, _, p2, _⟩ := hp 0 0 hd; clear hc hp hO; simp only [List.length_singleton])
 go_ret
 exact ⟨rfl, hb2⟩
end
theorem entry120 (D o n c : Nat) (r : Rec) (hs : Value) (w : World) (hD : D < w.heap.size) (hcell : ∀ (j : Nat) (b : UInt8), r.bytes[j]? = some b -> w.cell? ⟨D, o + j, none⟩ = some (BV b)) (hn : r.bytes.length = n) (hnc : n <= c) (hok : r.Ok) :
 Calls Tryz.prog 120 #[.slice (some ⟨D, o, none⟩) n c, hs] w fun e w' => ∃ b, e = .returned (.tuple #[PB b, .nilIface]) /\ w.heap.size <= b /\ EntAt w' b r (.pointer none) /\ Below w.heap.size w w' := by
 have HC := Lib.hid hcell
 clear hcell
 go_enter Tryz.func120, Tryz.ntmps120
 go_wp2_with (go_at_call 143; refine (entry_rec D o n c r hs _ hD HC.out hn hnc hok).mono ?_; rintro e w1 ⟨b, rfl, hbs, hE, hb⟩)
 go_ret2
 exact ⟨b, rfl, hbs, hE, hb⟩
theorem EntAt.frozen {w : World} {b : Nat} {r : Rec} {fs : Value} (h : EntAt w b r fs) (k : Nat) : w.frozen? ⟨b, k, none⟩ = false := by
 obtain ⟨x, a, X, co, _, h⟩ := h
 simp [World.frozen?, h]
theorem pde_any (D o n c F : Nat) (r : Rec) (sus : Bool) (w : World) (hD : D < w.heap.size) (hcell : ∀ (j : Nat) (b : UInt8), r.bytes[j]? = some b -> w.cell? ⟨D, o + j, none⟩ = some (BV b)) (hn : r.bytes.length = n) (hnc : n <= c) (hok : r.Ok)
 (hx : ∃ A m co, w.cell? ⟨F, 13, none⟩ = some (.slice A m co)) (hsus : w.cell? ⟨F, 11, none⟩ = some (.bool sus)) :
 Calls Tryz.prog 103 #[.slice (some ⟨D, o, none⟩) n c, PB F] w fun e w' => ∃ b, e = .returned (.tuple #[PB b, .nilIface]) /\ w.heap.size <= b /\ EntAt w' b r (PB F) /\ Below w.heap.size w w' := by
 obtain ⟨hn34, hn140⟩ := recLen_bd r.id.length hok.id1 hok.id2
 rw [<- r.bytes_len hok, hn] at hn34 hn140
 have c0 : w.cell? ⟨D, o, none⟩ = some (.int .u8 n) := by
  have := hcell 0 _ (r.has hok).b0
  rw [show recLen r.id.length ([] : List UInt8).length = n from ((r.bytes_len hok).symm.trans hn), bv_u8 n (by omega)] at this
  exact this
 obtain ⟨XA, Xm, Xc, hx⟩ := hx
 have hC : ∀ W : World, Below w.heap.size w W -> ∀ (j : Nat) (b : UInt8), r.bytes[j]? = some b -> W.cell? ⟨D, o + j, none⟩ = some (BV b) := by
  intro W hW j b hj
  rw [hW.cell (p := ⟨D, o + j, none⟩) hD]; exact hcell j b hj
 have HC := Lib.hid hC; have HN := Lib.hid hn
 clear hC
 have hF := cell_lt hx
 simp only at hF
 clear hcell hn
 have z1 : (n : Int) <= (c : Int) := by omega
 go_enter Tryz.func103, Tryz.ntmps103
 go_wp2_with (fail)
 go_region_held3 (fun W => W.cell? ⟨F, 13, none⟩ = some (.slice XA Xm Xc)) (first | exact hx | exact (hb.cell (p := ⟨F, 13, none⟩) hF).trans hx) (first
  | (go_at_call 120; go_must (refine (entry120 D o n c r _ _ (by exact hD) (HC.out _ (Below.refl _ _).drew) HN.out hnc hok).mono ?_); go_must (rintro e w1 ⟨b, rfl, hbs, hE, hb⟩)))
 have hbs' : w.heap.size <= b := hbs
 have fz := hE.frozen 16
 have f16 := hE.cells.fs
 have hE2 : EntAt (w1.setCell ⟨b, 16, none⟩ (PB F)) b r (PB F) := hE.setFs
 have hB2 : Below b w1 (w1.setCell ⟨b, 16, none⟩ (PB F)) := (Below.refl b w1).setCell (Nat.le_refl _) _
 have hbw : Below w.heap.size w w1 := (Below.refl _ _).drew.trans hb
 have k11 : (w1.setCell ⟨b, 16, none⟩ (PB F)).cell? ⟨F, 11, none⟩ = some (.bool sus) := by
  rw [hB2.cell (p := ⟨F, 11, none⟩) (by show F < b; omega), hbw.cell (p := ⟨F, 11, none⟩) hF]; exact hsus
 obtain ⟨X, co, k18⟩ := hE2.cells.exts
 have HE2 := Lib.hid hE2; have HB2 := Lib.hid hB2; have HBW := Lib.hid hbw
 clear hE hE2 hB2 hbw hb
 cases sus with
 | true =>
   go_wp2_with (fail)
   go_ret2
   exact ⟨b, rfl, hbs', HE2.out, HBW.out.trans ((Below.refl _ _).setCell (by exact hbs') _)⟩
 | false =>
   go_wp2_with (fail)
   go_ret2
   exact ⟨b, rfl, hbs', HE2.out, HBW.out.trans ((Below.refl _ _).setCell (by exact hbs') _)⟩
theorem RecsAt.split {b : List UInt8} {i : Nat} {rs : List (List UInt8)} (h : RecsAt b i rs) : (b.length <= i /\ rs = []) \/ (i < b.length /\ b[i]? = some 0 /\ RecsAt b (i + (2048 - i % 2048)) rs) \/ ∃ r rs', rs = r :: rs' /\ Holds b i r /\ i + r.length <= b.length /\ RecsAt b (i + r.length) rs' := by
 cases h with
 | done _ h => exact .inl ⟨h, rfl⟩
 | skip _ _ h1 h2 h3 => exact .inr (.inl ⟨h1, h2, h3⟩)
 | one _ r rs h1 h2 h3 => exact .inr (.inr ⟨r, rs, rfl, h1, h2, h3⟩)
theorem info116 : (Tryz.prog.info? 116).map (fun i => (i.zero.map (·.cells.size), i.size, i.bytes)) = some (some 1, 1, 8) := by kernel_rfl
theorem under181 : Tryz.prog.underlying 181 = some (.slice 116) := by kernel_rfl
theorem pdes_any (D n c F : Nat) (l : List UInt8) (rs : List Rec) (w : World) (hsrc : Src w D l) (hl : l.length = n) (hnc : n <= c) (hn : n <= 1000000) (hF : FsP w F false) (hR : RecsAt l 0 (rs.map Rec.bytes)) (hok : ∀ r ∈ rs, r.Ok) (hrl : rs.length <= 1000) :
 Calls Tryz.prog 135 #[.slice (some ⟨D, 0, none⟩) n c, PB F] w fun e w' => ∃ A co bs, e = .returned (.tuple #[.slice A rs.length co, .nilIface]) /\ w'.ownsRow w.heap.size 116 1 (.slice A rs.length co) rs.length (bs.map PB) /\ Ents w' bs rs (PB F) /\ (∀ b ∈ bs, w.heap.size <= b) /\ Below w.heap.size w w' := by
 have HS := Lib.hid hsrc; have HL := Lib.hid hl; have HF := Lib.hid hF; have HR := Lib.hid hR; have HOK := Lib.hid hok
 clear hsrc hl hF hR hok
 go_enter Tryz.func135, Tryz.ntmps135
 go_wp2_with (at_make; refine asList rfl fun KK hKK => ?_; refine go_makeV under181 info116 (by decide) (.const (.int .i64 0)) (.const (.int .i64 20)) rfl w.heap.size .i64 .i64 20 rfl rfl (by decide) (Nat.le_refl _) ?_; intro w1 hO1 hb1 hs1; refine hKK _ _ ?_; clear hKK KK)
 go_loopw [6, 7, 8] (fun ev cv iv wr => ∃ (k i : Nat) (z : Int) (A : Option Addr) (co : Nat) (bs : List Nat), k <= rs.length /\ iv = .int .i64 i /\ cv = .int .i64 z /\ i <= n + 2048 /\ Hid (RecsAt l i ((rs.drop k).map Rec.bytes)) /\ ev = .slice A k co /\ wr.ownsRow w.heap.size 116 1 (.slice A k co) k (bs.map PB) /\ Hid (Ents wr bs (rs.take k) (PB F)) /\ Hid (∀ b ∈ bs, w.heap.size <= b) /\ Below w.heap.size w wr) (fun _ _ iv _ => n + 4096 - (intOf iv).toNat)
 case atStart => exact ⟨0, 0, 0, _, _, [], by omega, rfl, rfl, by omega, HR, rfl, hO1, Ents.nil _ _, by simp [Hid], hb1⟩
 case round =>
  clear hO1 hb1 hs1
  obtain ⟨k, i, z, A, co, bs, hk, rfl, rfl, hi, hR, rfl, hO, hE, hB, hb⟩ := hrel
  have hFw := HF.out.later hb
  have f5 := hFw.blk
  have f11 := hFw.sus
  have HO := Lib.hid hO
  clear hO HR
  rcases hR.out.split with ⟨h1, h2⟩ | ⟨h1, h2, h3⟩ | ⟨rb, rs', h1, h2, h3, h4⟩
  . rw [HL.out] at h1
    have hke : k = rs.length := by
     have : (rs.drop k).length = 0 := by simpa using congrArg List.length h2
     rw [List.length_drop] at this; omega
    subst hke
    clear hR h2 f5 f11 hFw
    go_wp2_with (fail)
    go_ret2
    refine ⟨A, co, bs, rfl, HO.out, ?_, hB.out, hb⟩
    have := hE.out
    rwa [List.take_length] at this
  . rw [HL.out] at h1
    have c0 : wr.cell? ⟨D, i, none⟩ = some (.int .u8 0) := by
     rw [hb.cell (p := ⟨D, i, none⟩) HS.out.lt]; exact HS.out.cell i 0 h2
    have HR3 := Lib.hid h3
    clear hR h2 h3 hFw
    obtain ⟨m, hm⟩ : ∃ m, i % 2048 = m := ⟨_, rfl⟩
    have hmod : (i : Int) % 2048 = (m : Int) := by omega
    have hml : m < 2048 := by omega
    have HM := Lib.hid hm
    clear hm
    go_wp2_with (fail)
    go_quiet (fail)
    go_wp2_with (fail)
    have hbd : ∀ q, Below wr.heap.size wr (wr.drewN q) := fun q => below_drewN (Below.refl _ _) q
    go_roundw
    case rel =>
     refine ⟨k, i + (2048 - m), _, A, co, bs, hk, by congr 1; omega, rfl, by omega, ?_, rfl, ownsRow_later HO.out (hbd _), hE.out.later (hbd _), hB, hb.trans ((hbd _).mono hb.size)⟩
     unfold Hid; rw [<- HM.out]; exact HR3.out
    case measure => simp [intOf]; omega
  . obtain ⟨r, hr, hrr⟩ : ∃ r, rs[k]? = some r /\ rb = r.bytes /\ rs' = (rs.drop (k + 1)).map Rec.bytes := by
     cases hd : rs.drop k with
     | nil => rw [hd] at h1; simp at h1
     | cons r t =>
       rw [hd] at h1
       simp only [List.map_cons, List.cons.injEq] at h1
       have hk2 : k < rs.length := by
        by_cases hk2 : k < rs.length
        . exact hk2
        . rw [List.drop_eq_nil_of_le (by omega)] at hd; simp at hd
       have e := List.drop_eq_getElem_cons hk2
       rw [hd] at e
       injection e with e1 e2
       exact ⟨r, by rw [List.getElem?_eq_getElem hk2, <- e1], h1.1.symm, by rw [<- e2]; exact h1.2.symm⟩
    obtain ⟨rfl, rfl⟩ := hrr
    have hk2 : k < rs.length := (List.getElem?_eq_some_iff.1 hr).1
    have hrok : r.Ok := HOK.out r (List.mem_of_getElem? hr)
    obtain ⟨q, hq⟩ : ∃ q, r.bytes.length = q := ⟨_, rfl⟩
    have hq34 := recLen_bd r.id.length hrok.id1 hrok.id2
    rw [<- r.bytes_len hrok, hq] at hq34
    obtain ⟨hq34, hq140⟩ := hq34
    rw [hq, HL.out] at h3
    have hat : ∀ W : World, Below w.heap.size w W -> ∀ (j : Nat) (b : UInt8), r.bytes[j]? = some b -> W.cell? ⟨D, i + j, none⟩ = some (BV b) := by
     intro W hW j b hj
     rw [hW.cell (p := ⟨D, i + j, none⟩) HS.out.lt]
     refine HS.out.cell (i + j) b ?_
     rw [h2 j (List.getElem?_eq_some_iff.1 hj).1]; exact hj
    have c0 : wr.cell? ⟨D, i, none⟩ = some (.int .u8 q) := by
     have := hat wr hb 0 _ (r.has hrok).b0
     rw [show recLen r.id.length ([] : List UInt8).length = q from (r.bytes_len hrok).symm.trans hq, bv_u8 q (by omega)] at this
     exact this
    have hbl := hE.out.1
    rw [List.length_take, Nat.min_eq_left hk] at hbl
    have HBL := Lib.hid hbl
    clear hbl
    have HAT := Lib.hid hat; have HQ := Lib.hid hq; have HR4 := Lib.hid h4; have HRK := Lib.hid hr
    have hDl := HS.out.lt
    clear hR h1 h2 h4 hat hq hr
    have HFW := Lib.hid hFw
    clear hFw
    have hDw : D < wr.heap.size := Nat.lt_of_lt_of_le hDl hb.size
    go_wp2_with (first
     | (go_at_call 103; refine (pde_any D i q (c - i) F r false _ hDw (HAT.out _ hb) HQ.out (by omega) hrok ⟨_, _, _, HFW.out.exts⟩ HFW.out.sus).mono ?_; rintro e w2 ⟨b, rfl, hbs, hE2, hb2⟩; have g11 := (HFW.out.later hb2).sus; have hbw2 := hb.trans (hb2.mono hb.size); have HO2 := Lib.hid (ownsRow_later HO.out hb2))
     | (at_builtin; refine asList rfl fun KK hKK => ?_; refine go_appV (w := w2) under181 info116 (by decide) (.tmp 76) (.tmp 78) rfl w.heap.size w2.heap.size k A co (bs.map PB) (PB b) (by rw [List.length_map]; exact HBL.out.symm) rfl HO2.out ((Below.refl _ _).alloc (Nat.le_refl _) _) (by show (w2.heap.push _)[w2.heap.size]? = _; rw [Array.getElem?_push_size]) rfl rfl rfl (by omega) hbw2.size ?_; intro A3 c3 w3 hO3 hb3 hg3; refine hKK _ _ ?_; clear hKK KK))
    go_roundw
    case rel =>
     refine ⟨k + 1, i + q, _, A3, c3, bs ++ [b], hk2, by simp, rfl, by omega, ?_, rfl, by rw [List.map_append]; exact hO3, ?_, ?_, hbw2.trans hb3⟩
     . unfold Hid; have := HR4.out; rw [HQ.out] at this; exact this
     . unfold Hid
       rw [<- List.take_append_getElem hk2]
       have e : rs[k] = r := by have := HRK.out; rw [List.getElem?_eq_getElem hk2] at this; simpa using this
       rw [e]
       exact Ents.grown ((hE.out.later hb2).snoc hE2) HO2.out (by decide) hg3
     . unfold Hid
       intro x hx
       rcases List.mem_append.1 hx with h | h
       . exact hB.out x h
       . rw [List.mem_singleton] at h; subst h; exact Nat.le_trans hb.size hbs
    case measure => simp [intOf]; omega
structure Disk (img : List UInt8) (ms : List Node) : Prop where
 len : img.length <= 1000000000
 ext : ∀ i, (nodeAt ms i).extent < 400000
 pos : ∀ i, i < ms.length -> 0 < (nodeAt ms i).extent
 num : ∀ i, (nodeAt ms i).number < 65536
 fit : ∀ i, i < ms.length -> dirOf ms i = true -> (nodeAt ms i).extent * 2048 + (nodeAt ms i).size <= img.length
 small : ∀ i, i < ms.length -> dirOf ms i = true -> 34 <= (nodeAt ms i).size /\ (nodeAt ms i).size <= 1000000
 size : ∀ i, i < ms.length -> dirOf ms i = true -> (dirBytes ms i).length = (nodeAt ms i).size
 bytes : ∀ i, i < ms.length -> dirOf ms i = true -> (img.drop ((nodeAt ms i).extent * 2048)).take (nodeAt ms i).size = dirBytes ms i
 head : ∀ i, i < ms.length -> dirOf ms i = true -> (img.drop ((nodeAt ms i).extent * 2048 + 10)).take 4 = [u8 (nodeAt ms i).size, u8 ((nodeAt ms i).size / 256), u8 ((nodeAt ms i).size / 65536), u8 ((nodeAt ms i).size / 16777216)]
 recs : ∀ i, i < ms.length -> dirOf ms i = true -> RecsAt (dirBytes ms i) 0 ((recsOf ms i).map Rec.bytes)
 ok : ∀ i, i < ms.length -> dirOf ms i = true -> ∀ r ∈ recsOf ms i, r.Ok
 cnt : ∀ i, i < ms.length -> (recsOf ms i).length <= 1000
structure FsW (w : World) (F M D PT RD : Nat) (img : List UInt8) (ms : List Node) (ds : List Nat) : Prop where
 p : FsP w F false
 mlt : M < w.heap.size
 dlt : D < w.heap.size
 back : w.cell? ⟨F, 4, none⟩ = some (.iface 107 (PB M))
 mem : MemAt w M D img
 work : w.cell? ⟨F, 1, none⟩ = some (.string ⟨#[]⟩)
 jol : w.cell? ⟨F, 14, none⟩ = some (.bool false)
 pt : w.cell? ⟨F, 9, none⟩ = some (PB PT)
 ptat : PtAt w PT ms ds
 root : w.cell? ⟨F, 10, none⟩ = some (PB RD)
 rootat : ∃ r : Rec, r.e = (nodeAt ms 0).extent /\ r.s = (nodeAt ms 0).size /\ EntAt w RD r (PB F)
 lab : ∃ V s, w.cell? ⟨F, 7, none⟩ = some (PB V) /\ w.cell? ⟨V, 1, none⟩ = some (.string s)
theorem FsW.lt {w : World} {F M D PT RD : Nat} {img : List UInt8} {ms : List Node} {ds : List Nat} (h : FsW w F M D PT RD img ms ds) : F < w.heap.size := h.p.lt
theorem FsW.later {w w' : World} {F M D PT RD : Nat} {img : List UInt8} {ms : List Node} {ds : List Nat} (h : FsW w F M D PT RD img ms ds) (hb : Below w.heap.size w w') : FsW w' F M D PT RD img ms ds := by
 have hF := h.lt
 obtain ⟨r, h1, h2, h3⟩ := h.rootat
 refine ⟨h.p.later hb, Nat.lt_of_lt_of_le h.mlt hb.size, Nat.lt_of_lt_of_le h.dlt hb.size, ?_, h.mem.keep hb h.mlt h.dlt, ?_, ?_, ?_, h.ptat.later hb, ?_, ⟨r, h1, h2, h3.later hb⟩, ?_⟩
 . rw [hb.cell (p := ⟨F, 4, none⟩) hF]; exact h.back
 . rw [hb.cell (p := ⟨F, 1, none⟩) hF]; exact h.work
 . rw [hb.cell (p := ⟨F, 14, none⟩) hF]; exact h.jol
 . rw [hb.cell (p := ⟨F, 9, none⟩) hF]; exact h.pt
 . rw [hb.cell (p := ⟨F, 10, none⟩) hF]; exact h.root
 . obtain ⟨V, s, l1, l2⟩ := h.lab
   exact ⟨V, s, (hb.cell (p := ⟨F, 7, none⟩) hF).trans l1, (hb.cell (p := ⟨V, 1, none⟩) (cell_lt l2)).trans l2⟩
theorem err_any (s : ByteArray) (w : World) : Calls Tryz.prog 76 #[.string s] w fun e w' => (∃ b, e = .returned (.iface 214 (PB b))) /\ Below w.heap.size w w' := by
 go_enter Tryz.func76, Tryz.ntmps76
 go_wp2
 go_ret
 exact ⟨⟨_, rfl⟩, (Below.refl _ _).alloc (Nat.le_refl _) _⟩
def DirR (w w' : World) (F : Nat) (rs : List Rec) (e : Ending) : Prop := ∃ A co bs, e = .returned (.tuple #[.slice A rs.length co, .nilIface]) /\ w'.ownsRow w.heap.size 116 1 (.slice A rs.length co) rs.length (bs.map PB) /\ Ents w' bs rs (PB F) /\ (∀ b ∈ bs, w.heap.size <= b) /\ Below w.heap.size w w'
theorem own_src {w : World} {B g cap n : Nat} {l : List UInt8} (h : Own w B (.slice (some ⟨g, 0, none⟩) n cap) l) (hn : l.length = n) : Src w g l := by
 subst hn
 refine ⟨h.base.2, fun j b hj => ?_⟩
 have hl := (List.getElem?_eq_some_iff.1 hj).1
 have := h.cell j hl
 rw [this, (List.getElem?_eq_some_iff.1 hj).2]
theorem wrap_small (x : Int) (h1 : 0 <= x) (h2 : x < 2000000000) : IntKind.i64.wrap x = x := by
 rw [IntKind.wrap_i64]; omega
theorem wrapE10 (E : Nat) (h : E < 400000) : IntKind.i64.wrap (IntKind.i64.wrap (IntKind.i64.wrap (E : Int) * 2048) + 10) = ((E * 2048 + 10 : Nat) : Int) := by
 rw [wrap_small (E : Int) (by omega) (by omega), wrap_small ((E : Int) * 2048) (by omega) (by omega), wrap_small ((E : Int) * 2048 + 10) (by omega) (by omega)]
 omega
theorem wrapE (E : Nat) (h : E < 400000) : IntKind.i64.wrap (IntKind.i64.wrap (E : Int) * 2048) = ((E * 2048 : Nat) : Int) := by
 rw [wrap_small (E : Int) (by omega) (by omega), wrap_small ((E : Int) * 2048) (by omega) (by omega)]
 omega
theorem readAt_z (M D B g cap at' n : Nat) (Z : Int) (img l : List UInt8) (w : World) (hZ : Z = at') (hm : MemAt w M D img) (hln : l.length = n) (hown : Own w B (.slice (some ⟨g, 0, none⟩) n cap) l) (hl : 0 < n) (hfit : at' + n <= img.length) (hsz : img.length <= 1000000000) (hB : B <= w.heap.size) :
 Calls Tryz.prog 185 #[.pointer (some ⟨M, 0, none⟩), .slice (some ⟨g, 0, none⟩) n cap, .int .i64 Z] w fun e w' =>
  e = .returned (.tuple #[.int .i64 n, .nilIface]) /\ Own w' B (.slice (some ⟨g, 0, none⟩) n cap) ((img.drop at').take n) /\ Below B w w' := by
 subst hZ
 exact (readAt_n M D B g cap at' n img l w hm hln hown hl hfit hsz hB).mono fun e w' h => ⟨h.1, h.2.1, h.2.2.1⟩
theorem readPVD_pt (F M D PT RD i : Nat) (img : List UInt8) (ms : List Node) (ds : List Nat) (p : ByteArray) (w : World) (hW : FsW w F M D PT RD img ms ds) (hD : Disk img ms) (hi : i < ms.length) (hd : dirOf ms i = true)
 (hpt : ∀ W, Below w.heap.size w W -> Calls Tryz.prog 132 #[PB PT, .string p] W fun e w' => e = .returned (.int .u32 (nodeAt ms i).extent) /\ Below W.heap.size W w') :
 Calls Tryz.prog 112 #[PB F, .string p] w fun e w' => DirR w w' F (recsOf ms i) e := by
 have KW : ∀ W, Below w.heap.size w W -> FsW W F M D PT RD img ms ds := fun W h => hW.later h
 obtain ⟨hs1, hs2⟩ := hD.small i hi hd
 have hfit := hD.fit i hi hd
 have hpos := hD.pos i hi
 have hext := hD.ext i
 have hsz := hD.size i hi hd
 have hby := hD.bytes i hi hd
 have hhd := hD.head i hi hd
 have hrc := hD.recs i hi hd
 have hlen := hD.len
 obtain ⟨E, hE⟩ : ∃ E, (nodeAt ms i).extent = E := ⟨_, rfl⟩
 obtain ⟨S, hS⟩ : ∃ S, (nodeAt ms i).size = S := ⟨_, rfl⟩
 rw [hE] at hfit hpos hext hby hhd hpt
 rw [hS] at hs1 hs2 hfit hsz hby hhd
 have HK := Lib.hid KW; have HPT := Lib.hid hpt; have HSZ := Lib.hid hsz; have HBY := Lib.hid hby; have HHD := Lib.hid hhd; have HRC := Lib.hid hrc; have HOK := Lib.hid (hD.ok i hi hd); have HCN := Lib.hid (hD.cnt i hi)
 have f13 := hW.p.exts
 have f9 := hW.pt
 have m1 := method_ReadAt ⟨M, 0, none⟩
 have hE0 : ((E : Int) == 0) = false := by simp; omega
 have hMl := hW.mlt; have hDl := hW.dlt; have hFl := hW.lt
 clear hW KW hD hpt hsz hby hhd hrc hE hS
 go_enter Tryz.func112, Tryz.ntmps112
 go_wp2
 refine wp_loop_rounds 1 ?_
 rw [rounds_succ]
 go_wp2_with (first
  | (at_make; refine asList rfl fun KK hKK => ?_; refine go_makeN (w0 := w) (.const (.int .i64 4)) (.const (.int .i64 4)) rfl w.heap.size _ _ _ _ 4 4 rfl rfl rfl rfl (by decide) (by decide) hb2 (Nat.le_refl _) ?_; intro w3 L3 hL3 hl3 hO3 hb3 hs3; refine hKK _ _ ?_; clear hKK KK)
  | (go_at_call 132; refine (HPT.out _ (Below.refl _ _)).mono ?_; rintro e w2 ⟨rfl, hb2⟩))
 have hW3 := HK.out _ hb3
 have f4 := hW3.back
 have f5 := hW3.p.blk
 have HW3 := Lib.hid hW3
 clear hW3
 go_region_held3 (fun W => W.cell? ⟨F, 4, none⟩ = some (.iface 107 (PB M)) /\ W.cell? ⟨F, 5, none⟩ = some (.int .i64 2048)) (first | exact ⟨f4, f5⟩ | go_keep | exact ⟨(hb4.cell (p := ⟨F, 4, none⟩) hFl).trans f4, (hb4.cell (p := ⟨F, 5, none⟩) hFl).trans f5⟩) (first
  | (go_at_call 185; go_must (refine (readAt_z M D w.heap.size w2.heap.size 4 (E * 2048 + 10) 4 _ img L3 _ (wrapE10 E hext) (HK.out _ hb3.drew).mem hl3.out hO3 (by decide) (by omega) hlen (by exact hb3.size)).mono ?_); go_must (rintro e w4 ⟨rfl, hO4, hb4⟩)))
 have hbw4 : Below w.heap.size w w4 := hb3.drew.trans hb4
 rw [HHD.out] at hO4
 have hsrc4 := own_src hO4 rfl
 have c0 := hsrc4.cell 0 _ rfl
 have c1 := hsrc4.cell 1 _ rfl
 have c2 := hsrc4.cell 2 _ rfl
 have c3 := hsrc4.cell 3 _ rfl
 clear hsrc4 hO4 hO3 hb3 hb4 f4 f5 f9 f13 hs3
 have hSl : S < 4294967296 := by omega
 go_upto_region 27 with (first
  | (at_make; refine asList rfl fun KK hKK => ?_; refine go_makeN (w0 := w) (.tmp 86) (.tmp 86) rfl w.heap.size _ _ _ _ S S rfl rfl rfl rfl (Nat.le_refl _) (by omega) hbw5 (Nat.le_refl _) ?_; intro w6 L6 hL6 hl6 hO6 hb6 hs6; refine hKK _ _ ?_; clear hKK KK)
  | (go_at_call 100; refine (Tryz.binary_LE_Uint32 w2.heap.size 0 4 _ _ _ _ _ _ (by decide) (by exact c0) (by exact c1) (by exact c2) (by exact c3)).mono ?_; rintro e w5 ⟨rfl, hb5⟩; rw [leNat_le S hSl]; have hbw5 := hbw4.trans (hb5.mono hbw4.size)))
 have hW6 := HK.out _ hb6
 have f4 := hW6.back
 have f5 := hW6.p.blk
 clear hW6 c0 c1 c2 c3
 go_region_held3 (fun W => W.cell? ⟨F, 4, none⟩ = some (.iface 107 (PB M)) /\ W.cell? ⟨F, 5, none⟩ = some (.int .i64 2048)) (first | exact ⟨f4, f5⟩ | go_keep | exact ⟨(hb7.cell (p := ⟨F, 4, none⟩) hFl).trans f4, (hb7.cell (p := ⟨F, 5, none⟩) hFl).trans f5⟩) (first
  | (go_at_call 185; go_must (refine (readAt_z M D w.heap.size w5.heap.size S (E * 2048) S _ img L6 _ (wrapE E hext) (HK.out _ hb6.drew).mem hl6.out hO6 (by omega) (by omega) hlen (by exact hb6.size)).mono ?_); go_must (rintro e w7 ⟨rfl, hO7, hb7⟩)))
 have hbw7 : Below w.heap.size w w7 := hb6.drew.trans hb7
 rw [HBY.out] at hO7
 have hsrc7 := own_src hO7 HSZ.out
 have HSRC := Lib.hid hsrc7
 clear hsrc7 hO7 hO6 hb6 hb7 f4 f5 hs6
 go_wp2_with (first
  | (go_at_call 135; refine (pdes_any w5.heap.size S S F (dirBytes ms i) (recsOf ms i) _ HSRC.out HSZ.out (Nat.le_refl _) hs2 (HK.out _ hbw7).p HRC.out HOK.out HCN.out).mono ?_; rintro e w8 ⟨A8, c8, bs, rfl, hO8, hE8, hB8, hb8⟩))
 go_ret2
 exact ⟨A8, c8, bs, rfl, row_lower hO8 hbw7.size, hE8, fun b hb => Nat.le_trans hbw7.size (hB8 b hb), hbw7.trans (hb8.mono hbw7.size)⟩
structure KidOk (ms : List Node) : Prop where
 name : ∀ i, i < ms.length -> ∀ k ∈ kidsOf ms i, (nodeAt ms k).id.data.toList ≠ [0] /\ (nodeAt ms k).id.data.toList ≠ [1]
 dir : ∀ i, i < ms.length -> ∀ k ∈ kidsOf ms i, (59 : UInt8) ∉ (nodeAt ms k).id.data.toList -> dirOf ms k = true /\ k < ms.length
def kidR (ms : List Node) (k : Nat) : Rec := ⟨(nodeAt ms k).id.data.toList, (nodeAt ms k).extent, (nodeAt ms k).size, (nodeAt ms k).f.time, (nodeAt ms k).f.dir, (nodeAt ms k).su⟩
def selfR (ms : List Node) (i : Nat) : Rec := ⟨[0], (nodeAt ms i).extent, (nodeAt ms i).size, (nodeAt ms i).f.time, true, []⟩
def parR (ms : List Node) (i : Nat) : Rec := ⟨[1], (nodeAt ms (parOf ms i)).extent, (nodeAt ms (parOf ms i)).size, (nodeAt ms (parOf ms i)).f.time, true, []⟩
theorem recsOf_eq (ms : List Node) (i : Nat) : recsOf ms i = selfR ms i :: parR ms i :: (kidsOf ms i).map (kidR ms) := rfl
theorem kid_rname {ms : List Node} (h : KidOk ms) {i k : Nat} (hi : i < ms.length) (hk : k ∈ kidsOf ms i) : (kidR ms k).name = ofL (nodeAt ms k).id.data.toList /\ (kidR ms k).self = false /\ (kidR ms k).par = false := by
 obtain ⟨h0, h1⟩ := h.name i hi k hk
 have e1 : (kidR ms k).self = false := by unfold Rec.self kidR; simpa using h0
 have e2 : (kidR ms k).par = false := by unfold Rec.par kidR; simpa using h1
 exact ⟨by unfold Rec.name; rw [if_neg (by rw [e1, e2]; simp)]; rfl, e1, e2⟩
theorem row_cap {w : World} {B e n co : Nat} {A : Option Addr} {us : List Value} (h : w.ownsRow B e 1 (.slice A n co) n us) (h0 : 0 < n) : n <= co := by
 rcases h.2 with ⟨hv, h1⟩ | ⟨g, cap, cur, hv, hb, hg, hnc, _⟩
 . omega
 . injection hv with _ _ hv
   subst hv
   exact hnc
theorem lens_le (ps : List (List UInt8)) : Lib.Pa.lens ps <= (joinP ps).length := by
 induction ps with
 | nil => simp [Lib.Pa.lens]
 | cons s ps ih =>
   by_cases hp : ps = []
   . subst hp; rw [joinP_one]; simp [Lib.Pa.lens]
   . rw [joinP_cons s ps hp]
     simp [Lib.Pa.lens] at ih ⊢
     omega
theorem join_any (g o c : Nat) (rest : List (List UInt8)) (w : World) (hne : rest ≠ []) (hp : ∀ s ∈ rest, GoodPart s) (hcells : ∀ (j : Nat) s, rest[j]? = some s -> w.cell? ⟨g, o + j, none⟩ = some (SV s)) (hg : g < w.heap.size) (hl : (joinP rest).length <= 10000) (hn : rest.length <= 10001) :
 Calls Tryz.prog 83 #[.slice (some ⟨g, o, none⟩) rest.length c] w fun e w' => e = .returned (SV (joinP rest)) /\ Below w.heap.size w w' := by
 have hmap : (rest.map ofL).map (·.data.toList) = rest := by
  rw [List.map_map]
  exact List.map_id'' (fun l => rfl) rest
 have := Tryz.path_Join_rules g o c (rest.map ofL) w (by
  intro j x hx
  rw [List.getElem?_map] at hx
  cases hj : rest[j]? with
  | none => rw [hj] at hx; simp at hx
  | some s => rw [hj] at hx; simp at hx; subst hx; exact hcells j s hj) hg (by
  rw [hmap, List.length_map]
  have := lens_le rest
  omega)
 rw [List.length_map, hmap, join_join rest hne hp] at this
 exact this
end Go.Proofs.YtilgpaeeleknhaaGreatDoor
