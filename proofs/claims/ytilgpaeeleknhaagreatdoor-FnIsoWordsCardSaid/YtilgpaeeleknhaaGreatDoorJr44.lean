/- A part of the proof of laws.FnIsoRock (see the last text). -/
import Derived.Test.YtilgpaeeleknhaaGreatDoorJr32
import Derived.Test.YtilgpaeeleknhaaGreatDoorJr36
set_option linter.unusedSimpArgs false
set_option linter.unusedVariables false
set_option maxRecDepth 1000000
set_option maxHeartbeats 8000000
namespace Go.Proofs.YtilgpaeeleknhaaGreatDoor
open Go Go.RowKit
structure TreeX where
 self : Nat -> RX
 par : Nat -> RX
 kid : Nat -> RX
 dir : Nat -> List UInt8
def TreeX.recs (T : TreeX) (ms : List Node) (i : Nat) : List RX := T.self i :: T.par i :: (kidsOf ms i).map T.kid
structure KidX (ms : List Node) (x : RX) (k : Nat) : Prop where
 lt : k < ms.length
 self : x.r.self = false
 par : x.r.par = false
 e : x.r.e = (nodeAt ms k).extent
 s : x.r.s = (nodeAt ms k).size
 d : x.r.d = dirOf ms k
 t : x.r.t = (nodeAt ms k).f.time
 ne : x.nm ≠ []
structure DiskX (img : List UInt8) (ms : List Node) (T : TreeX) : Prop where
 len : img.length <= 1000000000
 ext : ∀ i, (nodeAt ms i).extent < 400000
 pos : ∀ i, i < ms.length -> 0 < (nodeAt ms i).extent
 fit : ∀ i, i < ms.length -> dirOf ms i = true -> (nodeAt ms i).extent * 2048 + (nodeAt ms i).size <= img.length
 small : ∀ i, i < ms.length -> dirOf ms i = true -> 34 <= (nodeAt ms i).size /\ (nodeAt ms i).size <= 1000000
 size : ∀ i, i < ms.length -> dirOf ms i = true -> (T.dir i).length = (nodeAt ms i).size
 bytes : ∀ i, i < ms.length -> dirOf ms i = true -> (img.drop ((nodeAt ms i).extent * 2048)).take (nodeAt ms i).size = T.dir i
 recs : ∀ i, i < ms.length -> dirOf ms i = true -> RecsAt (T.dir i) 0 ((T.recs ms i).map RX.bytes)
 ok : ∀ i, i < ms.length -> dirOf ms i = true -> ∀ x ∈ T.recs ms i, RdX img x
 cnt : ∀ i, i < ms.length -> (T.recs ms i).length <= 1000
 self : ∀ i, i < ms.length -> dirOf ms i = true -> (T.self i).r.self = true
 par : ∀ i, i < ms.length -> dirOf ms i = true -> (T.par i).r.par = true
 kid : ∀ i, i < ms.length -> dirOf ms i = true -> ∀ k ∈ kidsOf ms i, KidX ms (T.kid k) k
inductive DownX (ms : List Node) (T : TreeX) : Nat -> List (List UInt8) -> Nat -> Prop
 | nil (i : Nat) : DownX ms T i [] i
 | cons (i k j : Nat) (q : List UInt8) (qs : List (List UInt8)) (hk : k ∈ kidsOf ms i) (hd : dirOf ms k = true) (hq : (T.kid k).nm = q) (hu : ∀ k' ∈ kidsOf ms i, (T.kid k').nm = q -> k' = k) (h : DownX ms T k qs j) : DownX ms T i (q :: qs) j
structure DirAt (w : World) (b E S F : Nat) : Prop where
 e : w.cell? ⟨b, 1, none⟩ = some (.int .u32 E)
 s : w.cell? ⟨b, 2, none⟩ = some (.int .u32 S)
 fs : w.cell? ⟨b, 16, none⟩ = some (PB F)
theorem DirAt.lt {w : World} {b E S F : Nat} (h : DirAt w b E S F) : b < w.heap.size := cell_lt h.e
theorem DirAt.later {w w' : World} {b E S F : Nat} (h : DirAt w b E S F) (hb : Below w.heap.size w w') : DirAt w' b E S F := by
 have hl := h.lt
 exact ⟨(hb.cell (p := ⟨b, 1, none⟩) hl).trans h.e, (hb.cell (p := ⟨b, 2, none⟩) hl).trans h.s, (hb.cell (p := ⟨b, 16, none⟩) hl).trans h.fs⟩
structure FsX (w : World) (F M D RD : Nat) (img : List UInt8) (E S : Nat) : Prop where
 p : FsR w F M D true img
 work : w.cell? ⟨F, 1, none⟩ = some (.string ⟨#[]⟩)
 jol : w.cell? ⟨F, 14, none⟩ = some (.bool false)
 root : w.cell? ⟨F, 10, none⟩ = some (PB RD)
 rootat : DirAt w RD E S F
 lab : ∃ V s, w.cell? ⟨F, 7, none⟩ = some (PB V) /\ w.cell? ⟨V, 1, none⟩ = some (.string s)
theorem FsX.lt {w : World} {F M D RD : Nat} {img : List UInt8} {E S : Nat} (h : FsX w F M D RD img E S) : F < w.heap.size := h.p.lt
theorem FsX.later {w w' : World} {F M D RD : Nat} {img : List UInt8} {E S : Nat} (h : FsX w F M D RD img E S) (hb : Below w.heap.size w w') : FsX w' F M D RD img E S := by
 have hF := h.lt
 refine ⟨h.p.later hb, (hb.cell (p := ⟨F, 1, none⟩) hF).trans h.work, (hb.cell (p := ⟨F, 14, none⟩) hF).trans h.jol, (hb.cell (p := ⟨F, 10, none⟩) hF).trans h.root, h.rootat.later hb, ?_⟩
 obtain ⟨V, s, l1, l2⟩ := h.lab
 exact ⟨V, s, (hb.cell (p := ⟨F, 7, none⟩) hF).trans l1, (hb.cell (p := ⟨V, 1, none⟩) (cell_lt l2)).trans l2⟩
theorem deLocX_step (F M D : Nat) (img : List UInt8) (ms : List Node) (T : TreeX) (hD : DiskX img ms T) (rest : List (List UInt8)) (q : List UInt8) (i b k j : Nat) (w : World) (hW : FsR w F M D true img) (hi : i < ms.length) (hd : dirOf ms i = true) (hent : DirAt w b (nodeAt ms i).extent (nodeAt ms i).size F)
 (hk : k ∈ kidsOf ms i) (hkd : dirOf ms k = true) (hq : (T.kid k).nm = q) (hu : ∀ k' ∈ kidsOf ms i, (T.kid k').nm = q -> k' = k) (hj : rest = [] -> j = k) (hpp : ∀ s ∈ q :: rest, GoodPart s /\ (92 : UInt8) ∉ s) (hl : (joinP (q :: rest)).length <= 10000)
 (ih : ∀ (b' : Nat) (W : World), rest ≠ [] -> DirAt W b' (nodeAt ms k).extent (nodeAt ms k).size F -> FsR W F M D true img -> Calls Tryz.prog 133 #[PB b', SV (joinP rest)] W fun e w' => e = .returned (.tuple #[.int .u32 (nodeAt ms j).extent, .int .u32 (nodeAt ms j).size, .nilIface]) /\ Below W.heap.size W w') :
 Calls Tryz.prog 133 #[PB b, SV (joinP (q :: rest))] w fun e w' => e = .returned (.tuple #[.int .u32 (nodeAt ms j).extent, .int .u32 (nodeAt ms j).size, .nilIface]) /\ Below w.heap.size w w' := by
 have KW : ∀ W, Below w.heap.size w W -> FsR W F M D true img := fun W h => hW.later h
 have KE : ∀ W, Below w.heap.size w W -> DirAt W b (nodeAt ms i).extent (nodeAt ms i).size F := fun W h => hent.later h
 obtain ⟨hs1, hs2⟩ := hD.small i hi hd
 have hfit := hD.fit i hi hd
 have hext := hD.ext i
 have hsz := hD.size i hi hd
 have hby := hD.bytes i hi hd
 have hrc := hD.recs i hi hd
 have hlen := hD.len
 have hkx := hD.kid i hi hd k hk
 have hbl := hent.lt
 obtain ⟨E, hE⟩ : ∃ E, (nodeAt ms i).extent = E := ⟨_, rfl⟩
 obtain ⟨S, hS⟩ : ∃ S, (nodeAt ms i).size = S := ⟨_, rfl⟩
 rw [hE] at hfit hext hby KE
 rw [hS] at hs1 hs2 hfit hsz hby KE
 have KC : ∀ W, Below w.heap.size w W -> W.cell? ⟨b, 1, none⟩ = some (.int .u32 E) /\ W.cell? ⟨b, 2, none⟩ = some (.int .u32 S) /\ W.cell? ⟨b, 16, none⟩ = some (PB F) := fun W h => ⟨(KE W h).e, (KE W h).s, (KE W h).fs⟩
 have hqq := hpp q (by simp)
 have hqd : (q == [46]) = false := by simpa using hqq.1.dot
 have hps : ∀ s ∈ q :: rest, (47 : UInt8) ∉ s /\ (92 : UInt8) ∉ s /\ s ≠ [] := fun s hs => ⟨(hpp s hs).1.no, (hpp s hs).2, (hpp s hs).1.ne⟩
 have hpl : rest.length + 1 <= 10001 := by
  have h1 := els_length (joinP (q :: rest))
  rw [els_join _ (by simp) (fun s hs => (hps s hs).1)] at h1
  simp at h1; omega
 obtain ⟨R, hR⟩ : ∃ R, joinP (q :: rest) = R := ⟨_, rfl⟩
 have HSP := Lib.hid (fun w => splitPath_any (q :: rest) w (by simp) hps hl)
 rw [hR] at HSP ⊢
 have HKW := Lib.hid KW; have HKC := Lib.hid KC; have HSZ := Lib.hid hsz; have HBY := Lib.hid hby; have HRC := Lib.hid hrc; have HOK := Lib.hid (hD.ok i hi hd); have HCN := Lib.hid (hD.cnt i hi); have HIH := Lib.hid ih; have HPP := Lib.hid hpp; have HL := Lib.hid hl; have HR := Lib.hid hR
 have m1 := method_ReadAt ⟨M, 0, none⟩
 have hFl := hW.lt
 have hself := hD.self i hi hd
 have hpar := hD.par i hi hd
 obtain ⟨rs, hrse⟩ : ∃ rs, T.recs ms i = rs := ⟨_, rfl⟩
 have HRS := Lib.hid hrse
 have HMEM : Hid (T.kid k ∈ rs) := by
  unfold Hid; rw [<- hrse]; unfold TreeX.recs; simp only [List.mem_cons, List.mem_map]
  exact .inr (.inr ⟨k, hk, rfl⟩)
 have HWHO : Hid (∀ x ∈ rs, x.r.self = false -> x.r.par = false -> x.nm = q -> x = T.kid k) := by
  unfold Hid; intro x hx h1 h2 h3
  rw [<- hrse] at hx; unfold TreeX.recs at hx; simp only [List.mem_cons, List.mem_map] at hx
  rcases hx with rfl | rfl | ⟨k', hk', rfl⟩
  . rw [hself] at h1; cases h1
  . rw [hpar] at h2; cases h2
  . rw [hu k' hk' h3]
 rw [hrse] at HRC HOK HCN
 have hrs2 : 2 <= rs.length := by rw [<- hrse]; unfold TreeX.recs; simp
 have HKX := Lib.hid hkx; have HQ := Lib.hid hq; have HJ := Lib.hid hj; have HKD := Lib.hid hkd
 clear hW KW KE KC hent hsz hby hrc hE hS hps hpp hl ih hR hrse hself hpar hkx hq hu hj hk hkd hD
 go_enter Tryz.func133, Tryz.ntmps133
 go_upto_region 7 with (first
  | (at_make; refine asList rfl fun KK hKK => ?_; refine go_makeN (w0 := w2) (.tmp 52) (.tmp 52) rfl w2.heap.size _ _ _ _ S S rfl rfl rfl rfl (Nat.le_refl _) (by omega) (Below.refl _ _) (Nat.le_refl _) ?_; intro w3 L3 hL3 hl3 hO3 hb3 hs3; refine hKK _ _ ?_; clear hKK KK)
  | (go_at_call 148; refine (HSP.out _).mono ?_; rintro e w2 ⟨A, co, rfl, hO, hb2⟩; obtain ⟨g, rfl, hgw, hgl, hc⟩ := row_addr hO (by simp); have c0 := hc 0 _ rfl; have HC := Lib.hid hc; have hcap := row_cap hO (by simp); clear hc hO; obtain ⟨d1, d2, d16⟩ := HKC.out _ hb2; simp only [List.length_cons]))
 have hbw3 : Below w.heap.size w w3 := hb2.trans (hb3.mono hb2.size)
 have hW3 := HKW.out _ hbw3
 have f4 := hW3.back
 have f5 := hW3.blk
 obtain ⟨e1, _, e16⟩ := HKC.out _ hbw3
 have hww := hb2.size
 clear hW3 d1 d2 d16
 go_region_held3 (fun W => W.cell? ⟨F, 4, none⟩ = some (.iface 107 (PB M)) /\ W.cell? ⟨F, 5, none⟩ = some (.int .i64 2048) /\ W.cell? ⟨b, 1, none⟩ = some (.int .u32 E) /\ W.cell? ⟨b, 16, none⟩ = some (PB F)) (first | exact ⟨f4, f5, e1, e16⟩ | go_keep | exact ⟨(hb4.cell (p := ⟨F, 4, none⟩) (Nat.lt_of_lt_of_le hFl hww)).trans f4, (hb4.cell (p := ⟨F, 5, none⟩) (Nat.lt_of_lt_of_le hFl hww)).trans f5, (hb4.cell (p := ⟨b, 1, none⟩) (Nat.lt_of_lt_of_le hbl hww)).trans e1, (hb4.cell (p := ⟨b, 16, none⟩) (Nat.lt_of_lt_of_le hbl hww)).trans e16⟩) (first
  | (go_at_call 185; go_must (refine (readAt_z M D w2.heap.size w2.heap.size S (E * 2048) S _ img L3 _ (wrapE E hext) (HKW.out _ hbw3.drew).mem hl3.out hO3 (by omega) (by omega) hlen (by exact hb3.size)).mono ?_); go_must (rintro e w4 ⟨rfl, hO4, hb4⟩)))
 have hb24 : Below w2.heap.size w2 w4 := hb3.drew.trans hb4
 have hbw4 : Below w.heap.size w w4 := hb2.trans (hb24.mono hb2.size)
 rw [HBY.out] at hO4
 have hsrc4 := own_src hO4 HSZ.out
 have HSRC := Lib.hid hsrc4
 obtain ⟨d1, d2, d16⟩ := HKC.out _ hbw4
 have hcn : rs.length <= 1000 := HCN.out
 clear hsrc4 hO4 hO3 f4 f5 e1 e16 hs3 hb3 hb4 hbw3 c0
 go_wp2_with (first
  | (go_at_call 135; refine (pdesX_any w2.heap.size S S F M D (T.dir i) img rs _ HSRC.out HSZ.out (Nat.le_refl _) hs2 (HKW.out _ hbw4) HRC.out HOK.out HCN.out).mono ?_; rintro e w5 ⟨A5, c5, bs, rfl, hO5, hE5, hB5, hb5⟩; obtain ⟨g5, rfl, _, hg5, hc5⟩ := row_addr hO5 (by omega); have HC5 := Lib.hid hc5; have HE5 := Lib.hid hE5; clear hc5 hO5 hE5 hB5))
 have hbw5 : Below w.heap.size w w5 := hbw4.trans (hb5.mono hbw4.size)
 have hb25 : Below w2.heap.size w2 w5 := hb24.trans (hb5.mono hb24.size)
 have HB25 := Lib.hid hb25
 clear d1 d2 d16 hb24 hb5 hbw4 hb25
 go_loopw [4, 5, 103] (fun lv sv iv wr => ∃ t : Nat, t <= rs.length /\ iv = .int .i64 t /\ lv = .int .u32 0 /\ sv = .int .u32 0 /\ Below w5.heap.size w5 wr /\ Hid (∀ x ∈ rs.take t, x.nm ≠ q)) (fun _ _ iv _ => rs.length - (intOf iv).toNat)
 case atStart => exact ⟨0, Nat.zero_le _, rfl, rfl, rfl, Below.refl _ _, by simp [Hid]⟩
 case round =>
  obtain ⟨t, ht, rfl, rfl, rfl, hb, hno⟩ := hrel
  by_cases hlt : t < rs.length
  . obtain ⟨x, hx⟩ : ∃ x, rs[t]? = some x := ⟨_, List.getElem?_eq_getElem hlt⟩
    have htb : t < bs.length := by rw [HE5.out.1]; exact hlt
    obtain ⟨bt, hbt⟩ : ∃ bt, bs[t]? = some bt := ⟨_, List.getElem?_eq_getElem htb⟩
    have hp1 := HC5.out t (PB bt) (by rw [List.getElem?_map, hbt]; rfl)
    rw [<- hb.cell (p := ⟨g5, t, none⟩) hg5] at hp1
    have hEt := (HE5.out.2 t bt x hbt hx).later hb
    have hbwr : Below w.heap.size w wr := hbw5.trans (hb.mono hbw5.size)
    obtain ⟨_, _, d16⟩ := HKC.out _ hbwr
    have f11 := (HKW.out _ hbwr).sus
    have y17 := hEt.cells.name
    have y12 := hEt.cells.self
    have y13 := hEt.cells.par
    have hxm := List.mem_of_getElem? hx
    have hrd := HOK.out x hxm
    have htk : rs.take (t + 1) = rs.take t ++ [x] := by
     rw [<- List.take_append_getElem hlt]; congr 2
     rw [List.getElem?_eq_getElem hlt] at hx; simpa using hx
    have HTK := Lib.hid htk; have HX := Lib.hid hx; have HET := Lib.hid hEt; have HRD := Lib.hid hrd
    have hq0 : ¬ q = [] := hqq.1.ne
    have hqb : (([] : List UInt8) == q) = false := by cases q with | nil => exact absurd rfl hq0 | cons a l => rfl
    clear htk hx hEt hbt hrd
    by_cases hsp : (x.r.self || x.r.par) = true
    . have hn0 : x.r.name = ⟨#[]⟩ := by unfold Rec.name; rw [if_pos (by simpa using hsp)]
      have hnm : x.nm ≠ q := by rw [HRD.out.no hsp]; exact fun e => hq0 e.symm
      rw [hn0] at y17
      cases h1 : x.r.self with
      | true =>
        rw [h1] at y12
        go_wp2_with (fail)
        go_roundw
        case rel =>
         refine ⟨t + 1, hlt, by simp, rfl, rfl, hb, ?_⟩
         unfold Hid; rw [HTK.out]
         intro y hy
         rcases List.mem_append.1 hy with h | h
         . exact hno.out y h
         . rw [List.mem_singleton] at h; subst h; exact hnm
        case measure => simp [intOf]; omega
      | false =>
        have h2 : x.r.par = true := by rw [h1] at hsp; simpa using hsp
        rw [h1] at y12; rw [h2] at y13
        go_wp2_with (fail)
        go_roundw
        case rel =>
         refine ⟨t + 1, hlt, by simp, rfl, rfl, hb, ?_⟩
         unfold Hid; rw [HTK.out]
         intro y hy
         rcases List.mem_append.1 hy with h | h
         . exact hno.out y h
         . rw [List.mem_singleton] at h; subst h; exact hnm
        case measure => simp [intOf]; omega
    . have h1 : x.r.self = false := by cases h : x.r.self <;> simp_all
      have h2 : x.r.par = false := by cases h : x.r.par <;> simp_all
      rw [h1] at y12; rw [h2] at y13
      obtain ⟨hv, f13, hHV⟩ := (HKW.out _ hbwr).exts
      obtain ⟨g13, c13, R13, rfl, hg13, hR13, e13, _⟩ : ∃ g c' R, hv = .slice (some ⟨g, 0, none⟩) 1 c' /\ g < wr.heap.size /\ R < wr.heap.size /\ wr.cell? ⟨g, 0, none⟩ = some (.iface 255 (PB R)) /\ wr.cell? ⟨R, 4, none⟩ = some (.int .i64 36) := hHV
      have m2 := method_GetFilename ⟨R13, 0, none⟩
      have HNM := Lib.hid (HRD.out.nm h1 h2)
      clear hsp
      go_upto_region 21 with (fail)
      refine wp_loop_rounds 2 ?_
      rw [rounds_succ]
      go_wp2_with (first
       | (go_at_call 242; go_must (refine (fileName_any R13 bt x.r x.fo _ x.nm _ HET.out HRD.out.cnt HNM.out).mono ?_); rintro e w6 ⟨rfl, hb6⟩))
      rw [rounds_succ]
      have hb56 : Below w5.heap.size w5 w6 := hb.trans (hb6.mono hb.size)
      have hbw6 : Below w.heap.size w w6 := hbw5.trans (hb56.mono hbw5.size)
      obtain ⟨_, _, d16⟩ := HKC.out _ hbw6
      have f11 := (HKW.out _ hbw6).sus
      have HET6 := Lib.hid (HET.out.later hb6)
      by_cases hnm : x.nm = q
      . have hxk : x = T.kid k := HWHO.out x hxm h1 h2 hnm
        have hxd : x.r.d = true := by rw [hxk, HKX.out.d]; exact HKD.out
        have y7 := HET6.out.cells.d
        rw [hxd] at y7
        have hqt : (q == q) = true := by simp
        have y1 := HET6.out.cells.e
        have y2 := HET6.out.cells.s
        have y16 := HET6.out.cells.fs
        have HXK := Lib.hid hxk
        rw [hxk, HKX.out.e] at y1
        rw [hxk, HKX.out.s] at y2
        have HDA := Lib.hid (⟨y1, y2, y16⟩ : DirAt w6 bt (nodeAt ms k).extent (nodeAt ms k).size F)
        rw [hnm]
        clear hxk hxd hnm
        by_cases hr0 : rest = []
        . have hrl : rest.length = 0 := by rw [hr0]; rfl
          have HR0 := Lib.hid hr0
          clear hr0
          go_wp2_with (fail)
          go_ret3
          refine ⟨?_, hbw6⟩
          rw [HJ.out HR0.out]
          rfl
        . have hrl : 0 < rest.length := List.length_pos_iff.2 hr0
          have hco : ¬ co = 1 := by simp at hcap; omega
          have hgw2 : g < w6.heap.size := by have := hb56.size; have := HB25.out.size; omega
          have hcg : ∀ (j : Nat) s, rest[j]? = some s -> w6.cell? ⟨g, 1 + j, none⟩ = some (SV s) := by
           intro j s hj
           rw [(HB25.out.trans (hb56.mono HB25.out.size)).cell (p := ⟨g, 1 + j, none⟩) hgl]
           exact HC.out (1 + j) _ (by rw [List.getElem?_map, Nat.add_comm 1 j, List.getElem?_cons_succ, hj]; rfl)
          have hjl : (joinP rest).length <= 10000 := by
           have := HL.out
           rw [joinP_cons q rest hr0] at this
           simp at this; omega
          have hgp : ∀ s ∈ rest, GoodPart s := fun s hs => (HPP.out s (by simp [hs])).1
          have HCG := Lib.hid hcg; have HGP := Lib.hid hgp; have HR0 := Lib.hid hr0
          clear hcg hgp hr0
          go_wp2_with (first
           | (go_at_call 133; refine (HIH.out bt _ HR0.out (HDA.out.later hb7) ((HKW.out _ hbw6).later hb7)).mono ?_; rintro e w8 ⟨rfl, hb8⟩)
           | (go_at_call 83; refine (join_any g 1 _ rest _ HR0.out HGP.out HCG.out hgw2 hjl (by omega)).mono ?_; rintro e w7 ⟨rfl, hb7⟩))
          go_ret3
          have hbw7 : Below w.heap.size w w7 := hbw6.trans (hb7.mono hbw6.size)
          exact ⟨rfl, hbw7.trans (hb8.mono hbw7.size)⟩
      . have hnb : (x.nm == q) = false := by simpa using hnm
        go_wp2_with (fail)
        go_roundw
        case rel =>
         refine ⟨t + 1, hlt, by simp, rfl, rfl, hb56, ?_⟩
         unfold Hid; rw [HTK.out]
         intro y hy
         rcases List.mem_append.1 hy with h | h
         . exact hno.out y h
         . rw [List.mem_singleton] at h; subst h; exact hnm
        case measure => simp [intOf]; omega
  . exfalso
    have hte : t = rs.length := by omega
    subst hte
    have hno := hno.out
    rw [List.take_length] at hno
    exact hno _ HMEM.out HQ.out
theorem deLocX_any (F M D : Nat) (img : List UInt8) (ms : List Node) (T : TreeX) (hD : DiskX img ms T) : ∀ (qs : List (List UInt8)) (i j b : Nat) (w : World), DownX ms T i qs j -> qs ≠ [] -> FsR w F M D true img -> i < ms.length -> dirOf ms i = true -> DirAt w b (nodeAt ms i).extent (nodeAt ms i).size F -> (∀ s ∈ qs, GoodPart s /\ (92 : UInt8) ∉ s) -> (joinP qs).length <= 10000 ->
 Calls Tryz.prog 133 #[PB b, SV (joinP qs)] w fun e w' => e = .returned (.tuple #[.int .u32 (nodeAt ms j).extent, .int .u32 (nodeAt ms j).size, .nilIface]) /\ Below w.heap.size w w' := by
 intro qs
 induction qs with
 | nil => intro i j b w _ h; exact absurd rfl h
 | cons q qs ih =>
   intro i j b w hdn _ hW hi hd hent hpp hl
   cases hdn with
   | cons _ k _ _ _ hk hkd hq hu h =>
     refine deLocX_step F M D img ms T hD qs q i b k j w hW hi hd hent hk hkd hq hu ?_ hpp hl ?_
     . rintro rfl; cases h; rfl
     . intro b' W hne hDA hWW
       refine ih k j b' W h hne hWW (hD.kid i hi hd k hk).lt hkd hDA (fun s hs => hpp s (by simp [hs])) ?_
       rw [joinP_cons q qs hne] at hl
       simp at hl; omega
theorem deLocX_dot (F b E S : Nat) (w : World) (hent : DirAt w b E S F) :
 Calls Tryz.prog 133 #[PB b, .string ⟨#[46]⟩] w fun e w' => e = .returned (.tuple #[.int .u32 E, .int .u32 S, .nilIface]) /\ Below w.heap.size w w' := by
 have HSP := Lib.hid (fun w => splitPath_any [[46]] w (by simp) (by simp) (by decide))
 have e0 : (.string ⟨#[46]⟩ : Value) = SV (joinP [[46]]) := rfl
 have HE := Lib.hid hent
 rw [e0]
 clear hent e0
 go_enter Tryz.func133, Tryz.ntmps133
 go_wp2_with (first
  | (go_at_call 148; refine (HSP.out _).mono ?_; rintro e w2 ⟨A, co, rfl, hO, hb2⟩; obtain ⟨g, rfl, hgw, hgl, hc⟩ := row_addr hO (by simp); have c0 := hc 0 _ rfl; clear hc hO; have d1 := (HE.out.later hb2).e; have d2 := (HE.out.later hb2).s; simp only [List.length_cons, List.length_nil]))
 go_ret3
 exact ⟨rfl, hb2⟩
theorem readPVDX (F M D RD i E0 S0 : Nat) (img : List UInt8) (ms : List Node) (T : TreeX) (p : ByteArray) (w : World) (hW : FsX w F M D RD img E0 S0) (hD : DiskX img ms T) (hi : i < ms.length) (hd : dirOf ms i = true)
 (hde : ∀ W, Below w.heap.size w W -> Calls Tryz.prog 133 #[PB RD, .string p] W fun e w' => e = .returned (.tuple #[.int .u32 (nodeAt ms i).extent, .int .u32 (nodeAt ms i).size, .nilIface]) /\ Below W.heap.size W w') :
 Calls Tryz.prog 112 #[PB F, .string p] w fun e w' => DirX w w' F (T.recs ms i) e := by
 have KW : ∀ W, Below w.heap.size w W -> FsX W F M D RD img E0 S0 := fun W h => hW.later h
 obtain ⟨hs1, hs2⟩ := hD.small i hi hd
 have hfit := hD.fit i hi hd
 have hpos := hD.pos i hi
 have hext := hD.ext i
 have hsz := hD.size i hi hd
 have hby := hD.bytes i hi hd
 have hrc := hD.recs i hi hd
 have hlen := hD.len
 obtain ⟨E, hE⟩ : ∃ E, (nodeAt ms i).extent = E := ⟨_, rfl⟩
 obtain ⟨S, hS⟩ : ∃ S, (nodeAt ms i).size = S := ⟨_, rfl⟩
 rw [hE] at hfit hpos hext hby hde
 rw [hS] at hs1 hs2 hfit hsz hby hde
 have HK := Lib.hid KW; have HSZ := Lib.hid hsz; have HBY := Lib.hid hby; have HDE := Lib.hid hde; have HRC := Lib.hid hrc; have HOK := Lib.hid (hD.ok i hi hd); have HCN := Lib.hid (hD.cnt i hi)
 have m1 := method_ReadAt ⟨M, 0, none⟩
 have hE0 : ((E : Int) == 0) = false := by simp; omega
 have hFl := hW.lt
 obtain ⟨hv, f13, hHV⟩ := hW.p.exts
 obtain ⟨g13, c13, R13, rfl, hg13, hR13, e13, _⟩ : ∃ g c' R, hv = .slice (some ⟨g, 0, none⟩) 1 c' /\ g < w.heap.size /\ R < w.heap.size /\ w.cell? ⟨g, 0, none⟩ = some (.iface 255 (PB R)) /\ w.cell? ⟨R, 4, none⟩ = some (.int .i64 36) := hHV
 have m2 := method_UsePathtable ⟨R13, 0, none⟩
 clear hW KW hD hsz hby hde hrc hE hS
 go_enter Tryz.func112, Tryz.ntmps112
 go_upto_region 6 with (fail)
 refine wp_loop_rounds 1 ?_
 rw [rounds_succ]
 go_upto_region 27 with (first
  | (at_make; refine asList rfl fun KK hKK => ?_; refine go_makeN (w0 := w) (.tmp 86) (.tmp 86) rfl w.heap.size _ _ _ _ S S rfl rfl rfl rfl (Nat.le_refl _) (by omega) hbw5 (Nat.le_refl _) ?_; intro w6 L6 hL6 hl6 hO6 hb6 hs6; refine hKK _ _ ?_; clear hKK KK)
  | (go_at_call 133; refine (HDE.out _ hb2).mono ?_; rintro e w5 ⟨rfl, hb5⟩; have hbw5 := hb2.trans (hb5.mono hb2.size))
  | (go_at_call 245; refine (usePt_any _ _).mono ?_; rintro e w2 ⟨rfl, he2⟩; have hb2 : Below w.heap.size w w2 := he2 ▸ Below.refl _ _; clear he2; have f10 := (HK.out _ hb2).root))
 have hW6 := HK.out _ hb6
 have f4 := hW6.p.back
 have f5 := hW6.p.blk
 clear hW6
 go_region_held3 (fun W => W.cell? ⟨F, 4, none⟩ = some (.iface 107 (PB M)) /\ W.cell? ⟨F, 5, none⟩ = some (.int .i64 2048)) (first | exact ⟨f4, f5⟩ | go_keep | exact ⟨(hb7.cell (p := ⟨F, 4, none⟩) hFl).trans f4, (hb7.cell (p := ⟨F, 5, none⟩) hFl).trans f5⟩) (first
  | (go_at_call 185; go_must (refine (readAt_z M D w.heap.size w5.heap.size S (E * 2048) S _ img L6 _ (wrapE E hext) (HK.out _ hb6.drew).p.mem hl6.out hO6 (by omega) (by omega) hlen (by exact hb6.size)).mono ?_); go_must (rintro e w7 ⟨rfl, hO7, hb7⟩)))
 have hbw7 : Below w.heap.size w w7 := hb6.drew.trans hb7
 rw [HBY.out] at hO7
 have hsrc7 := own_src hO7 HSZ.out
 have HSRC := Lib.hid hsrc7
 clear hsrc7 hO7 hO6 hb6 hb7 f4 f5 hs6
 go_wp2_with (first
  | (go_at_call 135; refine (pdesX_any w5.heap.size S S F M D (T.dir i) img (T.recs ms i) _ HSRC.out HSZ.out (Nat.le_refl _) hs2 (HK.out _ hbw7).p HRC.out HOK.out HCN.out).mono ?_; rintro e w8 ⟨A8, c8, bs, rfl, hO8, hE8, hB8, hb8⟩))
 go_ret2
 exact ⟨A8, c8, bs, rfl, row_lower hO8 hbw7.size, hE8, fun b hb => Nat.le_trans hbw7.size (hB8 b hb), hbw7.trans (hb8.mono hbw7.size)⟩
theorem readDirectoryX (F : Nat) (p : ByteArray) (rs : List RX) (w : World) (hj : w.cell? ⟨F, 14, none⟩ = some (.bool false)) (hr : Calls Tryz.prog 112 #[PB F, .string p] w fun e w' => DirX w w' F rs e) :
 Calls Tryz.prog 85 #[PB F, .string p] w fun e w' => DirX w w' F rs e := by
 have HR := Lib.hid hr
 clear hr
 go_enter Tryz.func85, Tryz.ntmps85
 go_wp2_with (go_at_call 112; refine HR.out.mono ?_; rintro e w2 ⟨A, co, bs, rfl, h1, h2, h3, h4⟩)
 go_ret2
 exact ⟨A, co, bs, rfl, h1, h2, h3, h4⟩
theorem readDirX (F M D RD i : Nat) (img : List UInt8) (ms : List Node) (T : TreeX) (qs : List (List UInt8)) (w : World) (hW : FsX w F M D RD img (nodeAt ms 0).extent (nodeAt ms 0).size) (hD : DiskX img ms T) (h0 : 0 < ms.length) (hd0 : dirOf ms 0 = true) (hi : i < ms.length) (hd : dirOf ms i = true) (hdn : DownX ms T 0 qs i) (hpp : ∀ s ∈ qs, GoodPart s /\ (92 : UInt8) ∉ s) (hl : (joinP qs).length <= 10000) (p : ByteArray) (hp : p = if qs = [] then ⟨#[46]⟩ else ofL (joinP qs)) :
 Calls Tryz.prog 85 #[PB F, .string p] w fun e w' => DirX w w' F (T.recs ms i) e := by
 refine readDirectoryX F p _ w hW.jol (readPVDX F M D RD i _ _ img ms T p w hW hD hi hd fun W hb => ?_)
 have hWW := hW.later hb
 by_cases hq : qs = []
 . rw [if_pos hq] at hp; subst hp; subst hq
   cases hdn
   exact deLocX_dot F RD _ _ W hWW.rootat
 . rw [if_neg hq] at hp; subst hp
   exact deLocX_any F M D img ms T hD qs 0 i RD W hdn hq hWW.p h0 hd0 hWW.rootat hpp hl
end Go.Proofs.YtilgpaeeleknhaaGreatDoor
