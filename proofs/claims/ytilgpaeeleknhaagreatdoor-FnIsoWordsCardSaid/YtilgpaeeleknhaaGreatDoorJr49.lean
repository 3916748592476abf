/- A part of the proof of laws.FnIsoRock (see the last text). -/
import Derived.Test.YtilgpaeeleknhaaGreatDoorJr48
import Derived.Test.YtilgpaeeleknhaaGreatDoorJr47
import Derived.Test.YtilgpaeeleknhaaGreatDoorJr34
set_option linter.unusedSimpArgs false
set_option linter.unusedVariables false
set_option maxRecDepth 1000000
set_option maxHeartbeats 8000000
namespace Go.Proofs.YtilgpaeeleknhaaGreatDoor
open Go Go.RowKit
theorem TreeG.goodX {l : List File} (h : TreeG false l) (hl : l.length <= 40) : GoodX l /\ ∀ f ∈ l, f.p.length <= 900 /\ f.last.length <= 100 := by
 have hfn : ∀ f ∈ l, ∀ s ∈ Lib.Pa.els f.p, FreeName s := fun f hf s hs => by
  have := h.part f hf s hs
  unfold okPart at this
  rw [if_neg (by decide)] at this
  exact this
 refine ⟨⟨hl, fun f hf s hs => ?_, h.ahead, h.apart⟩, fun f hf => ⟨?_, ?_⟩⟩
 . have := hfn f hf s hs
   exact ⟨by intro e; have h1 := this.len.1; rw [e] at h1; simp at h1, this.no.1, this.dot.1, this.dot.2⟩
 . have h1 := joinP_els f.p
   have h2 := joinP_len (Lib.Pa.els f.p) 100 (fun s hs => (hfn f hf s hs).len.2)
   have h3 := h.deep f hf
   rw [h1] at h2
   have : (Lib.Pa.els f.p).length * (100 + 1) <= 7 * (100 + 1) := Nat.mul_le_mul_right _ h3
   omega
 . obtain ⟨qs, s, e1, e2⟩ := els_cut f.p
   show (cutLast f.p).2.length <= 100
   rw [e2]
   exact (hfn f hf s (by rw [e1]; simp)).len.2
theorem Tidied.same {f g : File} (h : Tidied f g) : g.path = f.path /\ g.dir = f.dir /\ g.data = f.data /\ g.uid = f.uid /\ g.gid = f.gid /\ g.perm = f.perm &&& 511 /\ g.time = tidyT f.time /\ LinkG g.target.data.toList /\ (g.target = f.target \/ g.target = ⟨#[97]⟩ /\ f.target.size ≠ 0) := by
 obtain ⟨t, h1, h2, rfl⟩ := h
 exact ⟨rfl, rfl, rfl, rfl, rfl, rfl, rfl, h1, h2⟩
theorem TidyL.mem {fs gs : List File} (h : TidyL fs gs) : ∀ g ∈ gs, ∃ f ∈ fs, Tidied f g := by
 intro g hg
 obtain ⟨i, hi, e⟩ := List.mem_iff_getElem.1 hg
 have hf : i < fs.length := by have := h.1; omega
 exact ⟨fs[i], List.getElem_mem hf, by rw [<- e]; exact h.2 i hf hi⟩
theorem TidyL.good {fs gs : List File} (h : TidyL fs gs) (hG : GoodX fs) : GoodX gs := by
 have hl := h.1
 have hp : ∀ i (hi : i < gs.length), gs[i].p = (fs[i]'(by omega)).p /\ gs[i].dir = (fs[i]'(by omega)).dir := fun i hi => by
  have := (h.2 i (by omega) hi).same
  exact ⟨by show gs[i].path.data.toList = _; rw [this.1], this.2.1⟩
 refine ⟨by have := hG.count; omega, fun g hg s hs => ?_, fun k hk => ?_, fun i j hi hj e => ?_⟩
 . obtain ⟨f, hf, ht⟩ := h.mem g hg
   refine hG.parts f hf s ?_
   have : g.p = f.p := by show g.path.data.toList = _; rw [ht.same.1]
   rw [<- this]; exact hs
 . obtain ⟨a, b⟩ := hG.ahead k (by omega)
   rw [(hp k hk).1]
   refine ⟨a, b.imp id fun ⟨j, hj, e1, e2⟩ => ⟨j, hj, ?_, ?_⟩⟩
   . rw [(hp j (by omega)).2]; exact e1
   . rw [(hp j (by omega)).1]; exact e2
 . rw [(hp i hi).1, (hp j hj).1] at e
   exact hG.apart i j (by omega) (by omega) e
theorem tidyT_bd (t : Int) : 0 <= tidyT t /\ tidyT t < 4102444800 := by unfold tidyT; omega
theorem trimS_no (a p : List UInt8) (h : Lib.hasSuffix a p = false) : Lib.trimSuffix a p = a := by
 unfold Lib.trimSuffix; rw [if_neg (by rw [h]; decide)]
theorem rock_of {fs gs : List File} (h : TreeG false fs) (hl : fs.length <= 40) (hs : sumD fs <= 60000) (hn : ∀ f ∈ fs, RockName f) (hv : ∀ f ∈ fs, Lib.validD f.path.data.toList = true) (hu : ∀ f ∈ fs, f.uid < 4294967296 /\ f.gid < 4294967296) (ht : TidyL fs gs) : ∀ g ∈ gs, RkG g /\ FileOk g /\ (Fits g -> RockF g) := by
 intro g hg
 obtain ⟨f, hf, htd⟩ := ht.mem g hg
 obtain ⟨e1, e2, e3, e4, e5, e6, e7, e8, e9⟩ := htd.same
 obtain ⟨hp1, hp2⟩ := (h.goodX hl).2 f hf
 have hp1' : f.path.size <= 900 := by have : f.path.data.toList.length <= 900 := hp1; rw [Array.length_toList] at this; exact this
 have hd := Nat.le_trans (sumD_mem fs f hf) hs
 have htm := tidyT_bd f.time
 have hgp : g.p = f.p := by show g.path.data.toList = _; rw [e1]
 have hgl : (cutLast g.p).2 = f.last := by rw [hgp]
 have hpm : g.perm < 512 := by rw [e6]; exact Nat.lt_of_le_of_lt Nat.and_le_right (by decide)
 have htz : f.target.size = 0 -> g.target.data.toList = [] := by
  intro hz
  rcases e9 with e | ⟨_, hne⟩
  . rw [e]; exact List.eq_nil_of_length_eq_zero (by rw [Array.length_toList]; exact hz)
  . exact absurd hz hne
 have hts : g.target.size <= 200 := by
  rcases e9 with e | ⟨e, _⟩
  . rw [e]
    by_cases hz : f.target.size = 0
    . omega
    . exact (h.links f hf hz).2.2
  . rw [e]; decide
 have hR := hn f hf
 have hF : Fits g -> RockF g := by
  intro hft
  refine ⟨by rw [e1]; exact hp1', by rw [hgp]; exact hv f hf, by rw [e3]; exact hd, by rw [e7]; exact htm.1, by rw [e7]; exact htm.2, hpm, by rw [e4]; exact (hu f hf).1, by rw [e5]; exact (hu f hf).2, fun hdir => ?_, e8, hft, by rw [hgl]; exact hR.back, by rw [hgl]; exact hp2, fun hdir => ?_⟩
  . rw [e2] at hdir
    exact htz (h.dirs f hf hdir).2
  . rw [e2] at hdir
    rw [hgl]
    exact ⟨trimS_no _ _ (hR.ver hdir), trimS_dot _ (hR.last' hdir), trimP_dot _ (hR.head hdir)⟩
 refine ⟨⟨by rw [hgl]; omega, hts, e8, by rw [e4]; exact (hu f hf).1, by rw [e5]; exact (hu f hf).2, by omega, fun hft => ?_⟩, ⟨by rw [e1]; exact hp1', by rw [e3]; exact hd, by rw [e7]; omega, by rw [e7]; omega⟩, hF⟩
 have := (restF_len (hF hft)).2
 omega
theorem LeavesOk.tells {fs : List File} {ds : List LeafD} (hL : LeavesOk fs ds) (hG : GoodX fs) : (∀ f ∈ fs, ∃ d ∈ ds, ofL d.path = f.path) /\ ∀ f ∈ fs, ∀ d ∈ ds, ofL d.path = f.path -> LeafTells f d := by
 constructor
 . intro f hf
   obtain ⟨d, hd, e⟩ := hL.mem f hf
   exact ⟨d, hd, by rw [e]⟩
 . intro f hf d hd e
   obtain ⟨h1, h2, h3, h4⟩ := hL.at' d hd
   have e2 : d.f.p = f.p := by
    rw [<- h2]
    show d.path = f.path.data.toList
    rw [<- e]
   have e3 : d.f = f := by
    obtain ⟨i, hi, ei⟩ := List.mem_iff_getElem.1 h1
    obtain ⟨j, hj, ej⟩ := List.mem_iff_getElem.1 hf
    have := hG.apart i j hi hj (by rw [ei, ej]; exact e2)
    subst this
    rw [<- ei, ej]
   rw [e3] at h3 h4
   refine ⟨e3, ?_, fun hd1 hd2 => ?_⟩
   . obtain ⟨qs, s, g1, g2⟩ := els_cut f.path.data.toList
     rw [h3, show f.p = f.path.data.toList from rfl, g2, g1]
     simp
   . obtain ⟨a, b⟩ := h4 hd1 hd2
     exact ⟨by rw [b], a⟩
theorem perm_bits {f g : File} (h : Tidied f g) : bits .and .u32 (g.perm : Int) 511 = (g.perm : Int) := by
 have e := h.same.2.2.2.2.2.1
 have h2 : g.perm < 512 := by rw [e]; exact Nat.lt_of_le_of_lt Nat.and_le_right (by decide)
 refine and_fact g.perm 511 g.perm (by omega) (by decide) ?_
 rw [show (511 : Nat) = 2 ^ 9 - 1 from rfl, Nat.and_two_pow_sub_one_eq_mod]
 exact Nat.mod_eq_of_lt h2
theorem isoImageX_b (cap : Nat) (A : Option Addr) (fs : List File) (ns : List Node) (vol : ByteArray) (w : World) (hl : fs.length <= 60) (hns : fs.length <= cap) (hA : FilesR w w.heap.size A fs) (hf : ∀ f ∈ fs, FileOk f) (hv : vol.size <= 32) (hm : addFiles true [rootNode] fs = some ns) (hrk : ∀ f ∈ fs, RkG f) :
 Calls Tryz.prog 11 #[.slice A fs.length cap, .string vol, .bool true] w fun e w' => ∃ (fb : Bool) (X : Option Addr) (n c : Nat), e = .returned (.tuple #[.slice X n c, .bool fb]) /\ Below w.heap.size w w' /\ (fb = true -> ∃ O ks ds area next img, X = some ⟨O, 0, none⟩ /\ n = next * 2048 /\ Own w' w.heap.size (.slice X n c) img /\ LaidR true ns vol.data.toList ks ds area next img /\ ∀ f ∈ fs, Fits f) := by
 refine (isoImageR_any true cap A fs ns vol w hl hns hA hf hv hm (fun _ => hrk)).mono ?_
 rintro e w' ⟨hb, (⟨O, ks, ds, area, next, img, rfl, hO, hL, hF⟩ | ⟨_, rfl, _⟩)⟩
 . exact ⟨true, _, _, _, rfl, hb, fun _ => ⟨O, ks, ds, area, next, img, rfl, rfl, hO, hL, hF rfl⟩⟩
 . exact ⟨false, none, 0, 0, rfl, hb, (fun h => by cases h)⟩
theorem fnWords_any (cap : Nat) (E : Addr) (A : Option Addr) (fs : List File) (w : World) (hA : FilesR w w.heap.size A fs) (hl : fs.length <= 4611686018427387904) (hcap : fs.length <= cap) (hnm : ∀ f ∈ fs, f.perm < 4294967296 /\ f.uid < 4294967296 /\ f.gid < 4294967296) (hT : Tabs w) (hG : w.cell? ⟨0, 0, none⟩ = some (EofV E)) :
 Calls Tryz.prog 4 #[.slice A fs.length cap] w fun e w' => e = .returned (.bool true) /\ Below w.heap.size w w' := by
 have h9 : ∀ W, Below w.heap.size w W -> Calls Tryz.prog 9 #[] W fun e w' => e = .returned (.bool true) /\ Below W.heap.size W w' := fun W hb => isoAwake_any E W (hT.later hb) ((hb.cell (p := ⟨0, 0, none⟩) (cell_lt hG)).trans hG)
 have hAW : ∀ W, Below w.heap.size w W -> FilesR W W.heap.size A fs := fun W hb => (hA.keep hb (Nat.le_refl _)).up hb.size
 have H6 := Lib.hid (zzFits3_any cap A fs w hA hl hcap)
 have H9 := Lib.hid h9; have HAW := Lib.hid hAW; have HT := Lib.hid hT; have HG := Lib.hid hG; have HNM := Lib.hid hnm
 clear h9 hAW hA hT hG hnm
 go_enter Tryz.func4, Tryz.ntmps4
 go_upto_region 3 with (first
  | (go_at_call 6; go_must (refine H6.out.mono ?_); rintro e w2 ⟨⟨r6, rfl, hr6⟩, hb2⟩; have HR6 := Lib.hid hr6; clear hr6))
 . go_ret
   exact ⟨rfl, hb2⟩
 . have h6 : r6 = true := by simpa using ‹(!r6) = false›
   obtain ⟨hsz, hfit⟩ := HR6.out h6
   have hpl : ∀ f ∈ fs, f.path.size <= 2147483647 := fun f hf => (hfit f hf).path
   have H7 := Lib.hid (treeGoodX_any cap A fs w2 (HAW.out _ hb2) hsz hcap hfit)
   have H8 := Lib.hid (fun W (hb : Below w.heap.size w W) => rockNames_any cap A fs W (HAW.out _ hb) hsz hcap hpl (HT.out.later hb))
   clear hfit hpl HR6 h6 H6
   go_upto_region 5 with (first
    | (go_at_call 9; go_must (refine (H9.out _ (by first | exact hb4 | exact hb3)).mono ?_); rintro e w9 ⟨rfl, hb9⟩)
    | (go_at_call 8; go_must (refine (H8.out _ hb3).mono ?_); rintro e w4 ⟨⟨r8, rfl, hr8⟩, hx4⟩; have HR8 := Lib.hid hr8; have hb4 := hb3.trans (hx4.mono hb3.size); clear hr8 hx4)
    | (go_at_call 7; go_must (refine H7.out.mono ?_); rintro e w3 ⟨⟨r7, rfl, hr7⟩, hx3⟩; have HR7 := Lib.hid hr7; have hb3 := hb2.trans (hx3.mono hb2.size); clear hr7 hx3))
   . go_ret
     exact ⟨rfl, hb4.trans (hb9.mono hb4.size)⟩
   . have h7 : r7 = true := by assumption
     have h8 : r8 = true := by simpa using ‹(!r8) = false›
     obtain ⟨hTG, h40, hsum⟩ := HR7.out h7
     obtain ⟨hRN, hVD⟩ := HR8.out h8
     obtain ⟨hGd, _⟩ := hTG.goodX h40
     have htg : ∀ f ∈ fs, f.target.size <= 200 := fun f hf => by
      by_cases hz : f.target.size = 0
      . omega
      . exact (hTG.links f hf hz).2.2
     have H10 := Lib.hid (rockTree_any cap A fs w4 (HAW.out _ hb4) h40 hcap htg (fun f hf => (HNM.out f hf).1))
     have HTG := Lib.hid hTG; have HGd := Lib.hid hGd; have HRN := Lib.hid hRN; have HVD := Lib.hid hVD; have HSU := Lib.hid hsum
     clear hTG hGd hRN hVD htg hsum HR7 HR8 H7 H8 h7 h8
     go_upto_region 6 with (first
      | (go_at_call 10; go_must (refine H10.out.mono ?_); rintro e w5 ⟨A5, cap5, gs, rfl, hcap5, hA5, htd, hx5⟩; have hb5 := hb4.trans (hx5.mono hb4.size); have HA5 := Lib.hid hA5; have HTD := Lib.hid htd; clear hA5 htd hx5))
     have hgl : gs.length <= 40 := by have := HTD.out.1; omega
     have hRO := rock_of HTG.out h40 HSU.out HRN.out HVD.out (fun f hf => (HNM.out f hf).2) HTD.out
     have hGg := HTD.out.good HGd.out
     obtain ⟨ns, hns⟩ := addFiles_made (rock := true) hGg.ahead
     have H11 := Lib.hid (isoImageX_b cap5 A5 gs ns ⟨#[82, 79, 67, 75]⟩ w5 (by omega) hcap5 HA5.out (fun g hg => (hRO g hg).2.1) (by decide) hns (fun g hg => (hRO g hg).1))
     have HRO := Lib.hid hRO; have HGG := Lib.hid hGg; have HNS := Lib.hid hns
     clear hRO hGg hns
     go_upto_region 7 with (first
      | (go_at_call 11; go_must (refine H11.out.mono ?_); rintro e w6 ⟨fb, X, n6, c6, rfl, hx6, hmd⟩; have HMD := Lib.hid hmd; have hb56 := hx6; have hb6 := hb5.trans (hx6.mono hb5.size); clear hmd hx6))
     go_upto_region 9 with (first
      | (go_at_call 9; go_must (refine (H9.out _ hb6).mono ?_); rintro e w9 ⟨rfl, hb9⟩))
     . go_ret
       exact ⟨rfl, hb6.trans (hb9.mono hb6.size)⟩
     . have hfb : fb = true := by simpa using ‹(!fb) = false›
       obtain ⟨O, ks, ds, area, next, img, rfl, hn6, hO, hL, hFt⟩ := HMD.out hfb
       obtain ⟨os, pt, hMade⟩ := isoX_of HGG.out (fun g hg => (HRO.out g hg).2.2 (hFt g hg)) HNS.out (by decide) hL
       have hil : img.length = n6 := by rw [hn6]; exact hMade.isoX.len
       have H12 := Lib.hid (isoOpenX_any hMade E O n6 c6 w6 hO.rd hil (HT.out.later hb6) ((hb6.cell (p := ⟨0, 0, none⟩) (cell_lt HG.out)).trans HG.out))
       have hA6 : ∀ W, Below w6.heap.size w6 W -> FilesR W W.heap.size A5 gs := fun W hb => (((HA5.out.keep hb56 (Nat.le_refl _)).up hb56.size).keep hb (Nat.le_refl _)).up hb.size
       have HA6 := Lib.hid hA6
       have hpz : ∀ g ∈ gs, g.path.size <= 10000 := fun g hg => by have := (HRO.out g hg).2.1.path; omega
       have HPZ := Lib.hid hpz
       clear hil hO hL hFt hMade hn6 HMD hA6 hpz
       go_upto_region 10 with (first
        | (go_at_call 12; go_must (refine H12.out.mono ?_); rintro e w7 ⟨lab, A7, m7, c7, dls, ls, rfl, hC7, hm7, hLv, hx7⟩; have hb7 := hb6.trans (hx7.mono hb6.size); have HX7 := Lib.hid hx7; have HC7 := Lib.hid hC7; have HM7 := Lib.hid hm7; have HLV := Lib.hid hLv; clear hC7 hm7 hLv hx7))
       have hts := HLV.out.tells HGG.out
       have hm7 : gs.length = m7 := by rw [HM7.out, HLV.out.len]
       have H13 := Lib.hid (sameWords_any cap5 c7 m7 A5 A7 gs dls ls w7 (HA6.out _ HX7.out) hcap5 HC7.out HM7.out (by omega) (fun g hg => by obtain ⟨f, _, h⟩ := HTD.out.mem g hg; exact perm_bits h) (by omega) HPZ.out hts.1 hts.2)
       clear hts hm7
       go_wp2_with (first
        | (go_at_call 9; go_must (refine (H9.out _ hb8).mono ?_); rintro e w9 ⟨rfl, hb9⟩)
        | (go_at_call 14; go_must (refine H13.out.mono ?_); rintro e w8 ⟨rfl, hx8⟩; have hb8 := hb7.trans (hx8.mono hb7.size)))
       go_ret
       exact ⟨rfl, hb8.trans (hb9.mono hb8.size)⟩
   . go_ret
     exact ⟨rfl, hb3.trans (hb9.mono hb3.size)⟩
end Go.Proofs.YtilgpaeeleknhaaGreatDoor
