/- A part of the proof of laws.FnIsoRock (see the last text). -/
import Derived.Test.YtilgpaeeleknhaaGreatDoorJr29
import Derived.Test.YtilgpaeeleknhaaGreatDoorJr08
set_option linter.unusedSimpArgs false
set_option linter.unusedVariables false
set_option maxRecDepth 1000000
set_option maxHeartbeats 8000000
namespace Go.Proofs.YtilgpaeeleknhaaGreatDoor
open Go Go.RowKit
def exC (r : Rec) (x a : Int) (fs : Value) (X : Option Addr) (n co : Nat) : List Value :=
 [.int .u8 0, .int .u32 r.e, .int .u32 r.s, .int .i64 x, .int .i64 0, .int .i64 a, .bool false, .bool r.d, .bool false, .bool false, .bool false, .bool false, .bool r.self, .bool r.par, .bool false, .int .u16 1, fs, .string r.name, .slice X n co]
def EntX (w : World) (b : Nat) (r : Rec) (h : Bool) (its : List Item) (fs : Value) (L : Nat := 0) : Prop := ∃ x a X co vs, TimeP r.t x /\ w.heap[b]? = some (.cells (exC r x a fs X its.length co).toArray 176) /\ w.ownsRow L 247 1 (.slice X its.length co) its.length vs /\ Al2 (ItemV h) its vs
theorem EntX.low {w : World} {b : Nat} {r : Rec} {h : Bool} {its : List Item} {fs : Value} {L : Nat} (H : EntX w b r h its fs L) : EntX w b r h its fs := by
 obtain ⟨x, a, X, co, vs, ht, h1, hO, hF⟩ := H
 exact ⟨x, a, X, co, vs, ht, h1, row_lower hO (Nat.zero_le _), hF⟩
theorem EntX.lt {w : World} {b : Nat} {r : Rec} {h : Bool} {its : List Item} {fs : Value} {L : Nat} (H : EntX w b r h its fs L) : b < w.heap.size := by
 obtain ⟨x, a, X, co, vs, _, h, _⟩ := H
 exact (Array.getElem?_eq_some_iff.1 h).1
theorem EntX.later {w w' : World} {b : Nat} {r : Rec} {h : Bool} {its : List Item} {fs : Value} {L : Nat} (H : EntX w b r h its fs L) (hb : Below w.heap.size w w') : EntX w' b r h its fs L := by
 have hl := H.lt
 obtain ⟨x, a, X, co, vs, ht, h, hO, hF⟩ := H
 exact ⟨x, a, X, co, vs, ht, by rw [hb.block _ hl]; exact h, ownsRow_later hO hb, hF⟩
theorem exC_cell {w : World} {b : Nat} {r : Rec} {x a : Int} {fs : Value} {X : Option Addr} {n co : Nat} (h : w.heap[b]? = some (.cells (exC r x a fs X n co).toArray 176)) (k : Nat) (v : Value) (hv : (exC r x a fs X n co)[k]? = some v) : w.cell? ⟨b, k, none⟩ = some v := by
 simp only [World.cell?, h]
 simpa using hv
structure ExC (w : World) (b : Nat) (r : Rec) (h : Bool) (its : List Item) (fs : Value) (L : Nat := 0) : Prop where
 e : w.cell? ⟨b, 1, none⟩ = some (.int .u32 r.e)
 s : w.cell? ⟨b, 2, none⟩ = some (.int .u32 r.s)
 d : w.cell? ⟨b, 7, none⟩ = some (.bool r.d)
 self : w.cell? ⟨b, 12, none⟩ = some (.bool r.self)
 par : w.cell? ⟨b, 13, none⟩ = some (.bool r.par)
 fs : w.cell? ⟨b, 16, none⟩ = some fs
 name : w.cell? ⟨b, 17, none⟩ = some (.string r.name)
 exts : ∃ X co vs, w.cell? ⟨b, 18, none⟩ = some (.slice X its.length co) /\ w.ownsRow L 247 1 (.slice X its.length co) its.length vs /\ Al2 (ItemV h) its vs
 frozen : ∀ k, w.frozen? ⟨b, k, none⟩ = false
theorem EntX.cells {w : World} {b : Nat} {r : Rec} {h : Bool} {its : List Item} {fs : Value} {L : Nat} (H : EntX w b r h its fs L) : ExC w b r h its fs L := by
 obtain ⟨x, a, X, co, vs, _, h, hO, hF⟩ := H
 have H := fun k v hv => exC_cell h k v hv
 exact ⟨H 1 _ rfl, H 2 _ rfl, H 7 _ rfl, H 12 _ rfl, H 13 _ rfl, H 16 _ rfl, H 17 _ rfl, ⟨X, co, vs, H 18 _ rfl, hO, hF⟩, fun k => by simp [World.frozen?, h]⟩
theorem row_set {w : World} {b k n m co B e : Nat} {A : Option Addr} {us : List Value} {v : Value} {cs : Array Value} {t : TypeId} (hO : w.ownsRow B e 1 (.slice A n co) m us) (h : w.heap[b]? = some (.cells cs t)) (hne : t ≠ e) : (w.setCell ⟨b, k, none⟩ v).ownsRow B e 1 (.slice A n co) m us := by
 have hn := row_not hO h hne
 refine ⟨hO.1, hO.2.imp id fun ⟨g, cap, cur, hv, h1, h2, h3⟩ => ⟨g, cap, cur, hv, h1, ?_, h3⟩⟩
 rw [heap_setCell_other w ⟨b, k, none⟩ g v (by intro e'; have e' : g = b := e'; subst e'; rw [hv] at hn; exact hn rfl)]
 exact h2
theorem EntX.setFs {w : World} {b : Nat} {r : Rec} {h : Bool} {its : List Item} {fs v : Value} {L : Nat} (H : EntX w b r h its fs L) : EntX (w.setCell ⟨b, 16, none⟩ v) b r h its v L := by
 obtain ⟨x, a, X, co, vs, ht, h, hO, hF⟩ := H
 refine ⟨x, a, X, co, vs, ht, ?_, row_set hO h (by decide), hF⟩
 have := heap_setCell_same w b 16 _ 176 v h
 simpa [exC] using this
structure RokX (r : Rec) (its : List Item) : Prop where
 id : r.id = [0] \/ r.id = [1] \/ r.id.length = 7 \/ r.id.length = 10
 e : r.e < 4294967296
 s : r.s < 4294967296
 t : 0 <= r.t /\ r.t < 4102444800
 su : r.su = itemsB its
 ok : ∀ it ∈ its, it.Ok
 one : 1 <= its.length
 cnt : its.length <= 20
 len : r.su.length <= 200
theorem Rec.hasX (r : Rec) : RecHas r.bytes r.id r.e r.s r.d r.su := isoRec_has r.id r.e r.s r.t r.d r.su
theorem Rec.timeX (r : Rec) (j : Nat) (hj : j < 7) : r.bytes[18 + j]? = (isoTimeB r.t)[j]? := by
 unfold Rec.bytes
 rw [isoRec_head _ _ _ _ _ _ _ (by omega) (by omega)]
 match j, hj with
 | 0, _ | 1, _ | 2, _ | 3, _ | 4, _ | 5, _ | 6, _ => rfl
theorem Rec.suX (r : Rec) : ∃ p tail, p.length = evn (33 + r.id.length) /\ r.bytes = p ++ (r.su ++ tail) /\ tail.length <= 1 := by
 have hl : r.bytes.length = recLen r.id.length r.su.length := isoRec_length _ _ _ _ _ _
 have hle : evn (33 + r.id.length) + r.su.length <= recLen r.id.length r.su.length /\ recLen r.id.length r.su.length <= evn (33 + r.id.length) + r.su.length + 1 := by
  unfold recLen
  generalize evn (33 + r.id.length) + r.su.length = q
  unfold evn; split <;> omega
 refine ⟨r.bytes.take (evn (33 + r.id.length)), (r.bytes.drop (evn (33 + r.id.length))).drop r.su.length, by rw [List.length_take]; omega, ?_, by rw [List.length_drop, List.length_drop]; omega⟩
 have e : (r.bytes.drop (evn (33 + r.id.length))).take r.su.length = r.su := by
  apply List.ext_getElem?
  intro j
  rw [List.getElem?_take]
  split
  . next hj => rw [List.getElem?_drop]; exact isoRec_su r.id r.e r.s r.t r.d r.su j hj
  . next hj => rw [List.getElem?_eq_none (by omega)]
 conv => lhs; rw [<- List.take_append_drop (evn (33 + r.id.length)) r.bytes, <- List.take_append_drop r.su.length (r.bytes.drop (evn (33 + r.id.length))), e]
theorem RokX.len2 {r : Rec} {its : List Item} (h : RokX r its) : r.bytes.length = recLen r.id.length r.su.length /\ 39 <= r.bytes.length /\ r.bytes.length <= 250 := by
 have hl : r.bytes.length = recLen r.id.length r.su.length := isoRec_length _ _ _ _ _ _
 have h1 : 1 <= r.id.length /\ r.id.length <= 10 := by
  rcases h.id with e | e | e | e
  . rw [e]; decide
  . rw [e]; decide
  . omega
  . omega
 have h2 : 5 <= r.su.length := by
  rw [h.su]
  cases hi : its with
  | nil => have := h.one; rw [hi] at this; simp at this
  | cons it t =>
    have := (it.bd (h.ok it (by rw [hi]; simp))).1
    show 5 <= (it.bytes ++ _).length
    rw [List.length_append]; omega
 have h3 := h.len
 refine ⟨hl, ?_⟩
 rw [hl]
 unfold recLen evn
 split <;> split <;> omega
theorem exX_new {w6 : World} {r : Rec} {h : Bool} {its : List Item} {re rs N n : Nat} {x a : Int} {X : Option Addr} {co : Nat} {vs : List Value} {nm : ByteArray} {b1 b2 : Bool} {q : Int} {L : Nat} (hre : r.e = re) (hrs : r.s = rs) (hs : w6.heap.size = N) (hn : its.length = n) (h1 : r.name = nm) (h2 : r.self = b1) (h3 : r.par = b2) (hq : q = 1) (hx : TimeP r.t x)
 (hO : w6.ownsRow L 247 1 (.slice X n co) n vs) (hF : Al2 (ItemV h) its vs) :
 EntX (w6.alloc (.cells #[.int .u8 0, .int .u32 re, .int .u32 rs, .int .i64 x, .int .i64 0, .int .i64 a, .bool false, .bool r.d, .bool false, .bool false, .bool false, .bool false, .bool b1, .bool b2, .bool false, .int .u16 q, .pointer none, .string nm, .slice X n co] 176)) N r h its (.pointer none) L := by
 subst h1; subst h2; subst h3; subst hq; subst hre; subst hrs; subst hs; subst hn
 exact ⟨x, a, X, co, vs, hx, heap_alloc_new w6 _, ownsRow_later hO ((Below.refl _ _).alloc (Nat.le_refl _) _), hF⟩
theorem entX_core (D o n c : Nat) (r : Rec) (h : Bool) (its : List Item) (fl : Int) (hs : Value) (w : World) (hsrc : SrcO w D o r.bytes) (hn : r.bytes.length = n) (hnc : n <= c) (hok : RokX r its) (hH : HandV w hs h) (hfl : BV (if r.d then 2 else 0) = .int .u8 fl)
 (a1 : (bits .and .u8 fl 1 == 1) = false) (a2 : (bits .and .u8 fl 2 == 2) = r.d) (a3 : (bits .and .u8 fl 4 == 4) = false) (a4 : (bits .and .u8 fl 8 == 8) = false) (a5 : (bits .and .u8 fl 16 == 16) = false) (a6 : (bits .and .u8 fl 128 == 128) = false) :
 Calls Tryz.prog 143 #[.slice (some ⟨D, o, none⟩) n c, hs, .bool false] w fun e w' => ∃ b, e = .returned (.tuple #[PB b, .nilIface]) /\ w.heap.size <= b /\ EntX w' b r h its (.pointer none) w.heap.size /\ Below w.heap.size w w' := by
 have hr := r.hasX
 have htm := r.timeX
 obtain ⟨pre, tail, hpl, hbe, htl⟩ := r.suX
 obtain ⟨hn2, hn34, hn250⟩ := hok.len2
 have hid := hok.id
 have he := hok.e
 have hz := hok.s
 obtain ⟨ht0, ht1⟩ := hok.t
 rw [hok.su] at hbe
 obtain ⟨re, hre⟩ : ∃ re, r.e = re := ⟨_, rfl⟩
 obtain ⟨rs, hrs⟩ : ∃ rs, r.s = rs := ⟨_, rfl⟩
 rw [hre] at hr he
 rw [hrs] at hr hz
 obtain ⟨ri, hri⟩ : ∃ ri, r.id = ri := ⟨_, rfl⟩
 obtain ⟨rb, hrb⟩ : ∃ rb, r.bytes = rb := ⟨_, rfl⟩
 obtain ⟨rsu, hrsu⟩ : ∃ su, r.su = su := ⟨_, rfl⟩
 obtain ⟨rt, hrt⟩ : ∃ t, r.t = t := ⟨_, rfl⟩
 rw [hri, hrsu] at hr hn2
 rw [hri] at hpl hid
 rw [hrb] at hr hsrc hn hbe hn2 hn34 hn250 htm
 rw [hrt] at htm ht0 ht1
 have HRE := Lib.hid hre; have HRS := Lib.hid hrs; have HRI := Lib.hid hri; have HRT := Lib.hid hrt
 have hsl := congrArg List.length hbe
 simp only [List.length_append] at hsl
 rw [hn] at hn34 hn250 hsl
 have hn2' : n = recLen ri.length rsu.length := by rw [<- hn]; exact hn2
 have HSL := Lib.hid hsl
 clear hre hrs hri hrb hn2 hrt hsl
 have HC : ∀ W : World, Below w.heap.size w W -> ∀ (j : Nat) (b : UInt8), rb[j]? = some b -> W.cell? ⟨D, o + j, none⟩ = some (BV b) := by
  intro W hW j b hj
  exact (hsrc.later hW).2 j b hj
 have hD := hsrc.1
 have c0 : w.cell? ⟨D, o, none⟩ = some (.int .u8 n) := by
  have := HC w (Below.refl _ _) 0 _ hr.b0
  rw [show recLen ri.length rsu.length = n from hn2'.symm, bv_u8 n (by omega)] at this
  exact this
 have c1 : w.cell? ⟨D, o + 1, none⟩ = some (.int .u8 0) := HC w (Below.refl _ _) 1 _ hr.b1
 have HC' := Lib.hid HC; have HR := Lib.hid hr; have HN := Lib.hid hn; have HTM := Lib.hid htm; have HBE := Lib.hid hbe; have HHV := Lib.hid (fun W (hW : Below w.heap.size w W) => hH.later hW); have HOK := Lib.hid hok; have HSRC := Lib.hid (fun W (hW : Below w.heap.size w W) => hsrc.later hW)
 clear HC hr hn htm hbe hH hsrc hok hn2'
 have z1 : (6 : Int) <= (c : Int) := by omega
 have z2 : (14 : Int) <= (c : Int) := by omega
 have z3 : ¬ c = 2 := by omega
 have z4 : ¬ c = 10 := by omega
 have z5 : (25 : Int) <= (c : Int) := by omega
 have z6 : ¬ c = 18 := by omega
 have z7 : (30 : Int) <= (c : Int) := by omega
 have z8 : ¬ c = 28 := by omega
 have HA := Lib.hid (And.intro a1 (And.intro a2 (And.intro a3 (And.intro a4 (And.intro a5 a6)))))
 have HFL := Lib.hid hfl
 clear a1 a2 a3 a4 a5 a6 hfl
 go_enter Tryz.func143, Tryz.ntmps143
 go_wp2_with (fail)
 go_region_held3 (fun _ => True) (trivial) (first
  | (go_at_call 100; go_must (refine (Tryz.binary_LE_Uint32 D (o + 2) 4 _ _ _ _ _ _ (by decide) (HC'.out _ (Below.refl _ _).drew 2 _ HR.out.e0) (HC'.out _ (Below.refl _ _).drew 3 _ HR.out.e1) (HC'.out _ (Below.refl _ _).drew 4 _ HR.out.e2) (HC'.out _ (Below.refl _ _).drew 5 _ HR.out.e3)).mono ?_); go_must (rintro e w2 ⟨rfl, hb2⟩); rw [leNat_le _ he]))
 have hw2 : Below w.heap.size w w2 := (Below.refl _ _).drew.trans hb2
 go_wp2_with (fail)
 go_region_held3 (fun _ => True) (trivial) (first
  | (go_at_call 100; go_must (refine (Tryz.binary_LE_Uint32 D (o + 10) 4 _ _ _ _ _ _ (by decide) (HC'.out _ (hw2.trans (Below.refl _ _).drew) 10 _ HR.out.s0) (HC'.out _ (hw2.trans (Below.refl _ _).drew) 11 _ HR.out.s1) (HC'.out _ (hw2.trans (Below.refl _ _).drew) 12 _ HR.out.s2) (HC'.out _ (hw2.trans (Below.refl _ _).drew) 13 _ HR.out.s3)).mono ?_); go_must (rintro e w3 ⟨rfl, hb3⟩); rw [leNat_le _ hz]))
 have hw3 : Below w.heap.size w w3 := hw2.trans ((Below.refl _ _).drew.trans (hb3.mono hw2.size))
 have htb : ∀ j b, (isoTimeB rt)[j]? = some b -> w3.cell? ⟨D, o + 18 + j, none⟩ = some (BV b) := by
  intro j b hj
  have hj7 : j < 7 := (List.getElem?_eq_some_iff.1 hj).1
  rw [Nat.add_assoc]
  exact HC'.out w3 hw3 (18 + j) b ((HTM.out j hj7).trans hj)
 have HTC := Lib.hid (fun c1 => bytesToTime_cal D (o + 18) 7 c1 rt w3 (by decide) ht0 ht1 htb)
 clear htb
 have hm10 : ri.length <= 10 := by
  rcases hid with e | e | e | e
  . rw [e]; decide
  . rw [e]; decide
  . omega
  . omega
 go_wp2_with (go_at_call 153; refine (HTC.out _).mono ?_; rintro e w4 ⟨⟨a, rfl⟩, hb4⟩; have hw4 := hw3.trans (hb4.mono hw3.size); have F25 := fun ob => old_cell ob ((HC'.out w4 hw4 25 _ HR.out.flag).trans (congrArg some HFL.out)); obtain ⟨a1, a2, a3, a4, a5, a6⟩ := HA.out; have F32 := fun ob => old_cell ob ((HC'.out w4 hw4 32 _ HR.out.nlen).trans (congrArg some (bv_u8 _ (by omega)))))
 clear a1 a2 a3 a4 a5 a6
 go_region_held3 (fun _ => True) (trivial) (first
  | (go_at_call 101; go_must (refine (Tryz.binary_LE_Uint16 D (o + 28) 2 _ _ _ _ (by decide) (HC'.out _ ((hw4.alloc hw4.size _).drew) 28 _ HR.out.seq0) (HC'.out _ ((hw4.alloc hw4.size _).drew) 29 _ HR.out.seq1)).mono ?_); go_must (rintro e w6 ⟨rfl, hb6⟩)))
 have hw6 : Below w.heap.size w w6 := (hw4.alloc hw4.size _).drew.trans (hb6.mono (hw4.alloc hw4.size _).size)
 have G32 : w6.cell? ⟨D, o + 32, none⟩ = some (.int .u8 ri.length) := (HC'.out w6 hw6 32 _ HR.out.nlen).trans (congrArg some (bv_u8 _ (by omega)))
 obtain ⟨t, ht⟩ : ∃ t, rt + 62135596800 = t := ⟨_, rfl⟩
 rw [ht] at hb6 ⊢
 have hcr : w6.heap[w4.heap.size]? = some (.cells #[.int .i64 t, .int .i64 0, .int .i64 a] 160) := by
  rw [hb6.block w4.heap.size (by show w4.heap.size < (w4.heap.push _).size; simp)]
  show (w4.heap.push _)[w4.heap.size]? = _
  rw [Array.getElem?_push_size]
 have htp : TimeP r.t t := fun _ _ => by rw [HRT.out, ht]
 have HTP := Lib.hid htp
 obtain ⟨m, hm⟩ : ∃ m, ri.length = m := ⟨_, rfl⟩
 rw [hm] at hpl G32 hm10
 have HMM := Lib.hid hm; have HHCR := Lib.hid hcr
 clear hb6 hcr hm htp ht
 clear c0 c1 F25 F32 hb2 hb3 hb4 hw2 hw3
 have hcr4 := (Array.getElem?_eq_some_iff.1 HHCR.out).1
 have hb67 : w.heap.size <= w6.heap.size := hw6.size
 have hevn : 33 <= evn (33 + m) := by unfold evn; split <;> omega
 have hItl : (itemsB its).length <= 240 := by have := HSL.out; omega
 have hIt5 : 5 <= (itemsB its).length := by
  cases hi : its with
  | nil => have := HOK.out.one; rw [hi] at this; simp at this
  | cons it t =>
    have := (it.bd (HOK.out.ok it (by rw [hi]; simp))).1
    show 5 <= (it.bytes ++ _).length
    rw [List.length_append]; omega
 clear hevn
 have hext : ∀ (p : Nat) (W : World), pre.length = p -> Below w6.heap.size w6 W -> Calls Tryz.prog 126 #[.slice (some ⟨D, o + p, none⟩) (n - p) (c - p), hs] W fun e w' => ItemsR W w' h its e := by
  intro p W hp hW
  have hwW := hw6.trans (hW.mono hb67)
  have hsrc := (HSRC.out W hwW).mid (p := pre) (m := itemsB its ++ tail) (s := []) (by rw [HBE.out, List.append_nil])
  rw [hp] at hsrc
  exact pext_any D (o + p) (n - p) (c - p) h hs its tail W hsrc (by have := HSL.out; omega) (by omega) (by omega) (by omega) HOK.out.ok (HHV.out W hwW) (by have := HOK.out.cnt; omega)
 have HEXT := Lib.hid hext
 clear hext
 have z9 : (33 : Int) + (m : Int) <= (c : Int) := by
  have h1 := HSL.out
  have h2 : 33 + m <= evn (33 + m) := by unfold evn; split <;> omega
  omega
 have z10 : ¬ c = 33 := by omega
 go_upto_region 21 with (fail)
 rcases hid with hid | hid | hid | hid
 . have hm1 : m = 1 := by rw [<- HMM.out, hid]; rfl
   subst hm1
   have hself : r.self = true := by unfold Rec.self; rw [HRI.out, hid]; rfl
   have hpar : r.par = false := by unfold Rec.par; rw [HRI.out, hid]; rfl
   have hname : r.name = ⟨#[]⟩ := by unfold Rec.name; rw [if_pos (.inl hself)]
   have g33 : w6.cell? ⟨D, o + 33, none⟩ = some (.int .u8 0) := by
    have h33 : w6.cell? ⟨D, o + 33, none⟩ = some (BV 0) := HC'.out w6 hw6 33 0 (by
     have := HR.out.name 0 (by rw [hid]; simp)
     rw [hid] at this; exact this)
    exact h33
   have hp34 : pre.length = 34 := hpl
   have zz1 : (34 : Int) < (n : Int) := by have := HSL.out; omega
   have zz2 : ¬ c = 34 := by omega
   have HSF := Lib.hid hself; have HPR := Lib.hid hpar; have HNM := Lib.hid hname
   clear hself hpar hname hid hpl
   go_wp2_with (first
    | (go_at_call 126; go_must (refine (HEXT.out 34 w7 hp34 hb7).mono ?_); rintro e w8 ⟨A8, co8, vs, rfl, hO8, hF8, hb8⟩; have hb78 := hb7.trans (hb8.mono hb7.size); obtain ⟨L0, L1, L2⟩ := three_cells ((hb78.block _ hcr4).trans HHCR.out))
    | (at_make; refine asList rfl fun KK hKK => ?_; refine go_makeV under174 info247 (by decide) (.const (.int .i64 0)) (.const (.int .i64 0)) rfl w6.heap.size .i64 .i64 0 rfl rfl (by decide) (Nat.le_refl _) ?_; intro w7 hO7 hb7 hs7; refine hKK _ _ ?_; clear hKK KK))
   go_ret2
   exact ⟨_, rfl, by have := hb78.size; omega, exX_new HRE.out HRS.out rfl rfl HNM.out HSF.out HPR.out rfl HTP.out (row_lower hO8 (by have := hb7.size; omega)) hF8, (hw6.trans (hb78.mono hb67)).alloc (by have := hb78.size; omega) _⟩
 . have hm1 : m = 1 := by rw [<- HMM.out, hid]; rfl
   subst hm1
   have hself : r.self = false := by unfold Rec.self; rw [HRI.out, hid]; rfl
   have hpar : r.par = true := by unfold Rec.par; rw [HRI.out, hid]; rfl
   have hname : r.name = ⟨#[]⟩ := by unfold Rec.name; rw [if_pos (.inr hpar)]
   have g33 : w6.cell? ⟨D, o + 33, none⟩ = some (.int .u8 1) := by
    have h33 : w6.cell? ⟨D, o + 33, none⟩ = some (BV 1) := HC'.out w6 hw6 33 1 (by
     have := HR.out.name 0 (by rw [hid]; simp)
     rw [hid] at this; exact this)
    exact h33
   have hp34 : pre.length = 34 := hpl
   have zz1 : (34 : Int) < (n : Int) := by have := HSL.out; omega
   have zz2 : ¬ c = 34 := by omega
   have HSF := Lib.hid hself; have HPR := Lib.hid hpar; have HNM := Lib.hid hname
   clear hself hpar hname hid hpl
   go_wp2_with (first
    | (go_at_call 126; go_must (refine (HEXT.out 34 w7 hp34 hb7).mono ?_); rintro e w8 ⟨A8, co8, vs, rfl, hO8, hF8, hb8⟩; have hb78 := hb7.trans (hb8.mono hb7.size); obtain ⟨L0, L1, L2⟩ := three_cells ((hb78.block _ hcr4).trans HHCR.out))
    | (at_make; refine asList rfl fun KK hKK => ?_; refine go_makeV under174 info247 (by decide) (.const (.int .i64 0)) (.const (.int .i64 0)) rfl w6.heap.size .i64 .i64 0 rfl rfl (by decide) (Nat.le_refl _) ?_; intro w7 hO7 hb7 hs7; refine hKK _ _ ?_; clear hKK KK))
   go_ret2
   exact ⟨_, rfl, by have := hb78.size; omega, exX_new HRE.out HRS.out rfl rfl HNM.out HSF.out HPR.out rfl HTP.out (row_lower hO8 (by have := hb7.size; omega)) hF8, (hw6.trans (hb78.mono hb67)).alloc (by have := hb78.size; omega) _⟩
 . have hm1 : m = 7 := by rw [<- HMM.out, hid]
   subst hm1
   have hself : r.self = false := by unfold Rec.self; rw [HRI.out, decide_eq_false_iff_not]; intro e; rw [e] at hid; simp at hid
   have hpar : r.par = false := by unfold Rec.par; rw [HRI.out, decide_eq_false_iff_not]; intro e; rw [e] at hid; simp at hid
   have hname : r.name = ofL ri := by unfold Rec.name; rw [if_neg (by rw [hself, hpar]; simp), HRI.out]
   have RD : RdO w6 (fun _ => True) (.slice (some ⟨D, o + 33, none⟩) 7 (c - 33)) ri := by
    refine ⟨_, _, by rw [HMM.out], fun ad _ => trivial, fun j u hu => ⟨_, rfl, ?_⟩⟩
    have hj : j < ri.length := by have := (List.getElem?_eq_some_iff.1 hu).1; rwa [length_BVs] at this
    rw [BVs_get _ _ hj] at hu
    cases hu
    rw [Addr.add_mid, Nat.add_assoc]
    refine HC'.out w6 hw6 (33 + j) _ ?_
    rw [HR.out.name j hj, List.getElem?_eq_getElem hj]
   have RD' := Lib.hid RD
   clear RD
   have hp40 : pre.length = 40 := hpl
   have zz1 : (40 : Int) < (n : Int) := by have := HSL.out; omega
   have zz2 : ¬ c = 40 := by omega
   have HSF := Lib.hid hself; have HPR := Lib.hid hpar; have HNM := Lib.hid hname
   clear hself hpar hname hid hpl
   go_wp2_with (first
    | (go_at_call 126; go_must (refine (HEXT.out 40 w7 hp40 hb7).mono ?_); rintro e w8 ⟨A8, co8, vs, rfl, hO8, hF8, hb8⟩; have hb78 := hb7.trans (hb8.mono hb7.size); obtain ⟨L0, L1, L2⟩ := three_cells ((hb78.block _ hcr4).trans HHCR.out))
    | (refine atConvert 27 9 ?_; refine asList rfl fun KK hKK => ?_; refine wp_toStr (.tmp 98) rfl (fun _ => True) _ ri rfl RD'.out ?_; refine hKK _ _ ?_; clear hKK KK)
    | (at_make; refine asList rfl fun KK hKK => ?_; refine go_makeV under174 info247 (by decide) (.const (.int .i64 0)) (.const (.int .i64 0)) rfl w6.heap.size .i64 .i64 0 rfl rfl (by decide) (Nat.le_refl _) ?_; intro w7 hO7 hb7 hs7; refine hKK _ _ ?_; clear hKK KK))
   go_ret2
   exact ⟨_, rfl, by have := hb78.size; omega, exX_new HRE.out HRS.out rfl rfl HNM.out HSF.out HPR.out rfl HTP.out (row_lower hO8 (by have := hb7.size; omega)) hF8, (hw6.trans (hb78.mono hb67)).alloc (by have := hb78.size; omega) _⟩
 . have hm1 : m = 10 := by rw [<- HMM.out, hid]
   subst hm1
   have hself : r.self = false := by unfold Rec.self; rw [HRI.out, decide_eq_false_iff_not]; intro e; rw [e] at hid; simp at hid
   have hpar : r.par = false := by unfold Rec.par; rw [HRI.out, decide_eq_false_iff_not]; intro e; rw [e] at hid; simp at hid
   have hname : r.name = ofL ri := by unfold Rec.name; rw [if_neg (by rw [hself, hpar]; simp), HRI.out]
   have RD : RdO w6 (fun _ => True) (.slice (some ⟨D, o + 33, none⟩) 10 (c - 33)) ri := by
    refine ⟨_, _, by rw [HMM.out], fun ad _ => trivial, fun j u hu => ⟨_, rfl, ?_⟩⟩
    have hj : j < ri.length := by have := (List.getElem?_eq_some_iff.1 hu).1; rwa [length_BVs] at this
    rw [BVs_get _ _ hj] at hu
    cases hu
    rw [Addr.add_mid, Nat.add_assoc]
    refine HC'.out w6 hw6 (33 + j) _ ?_
    rw [HR.out.name j hj, List.getElem?_eq_getElem hj]
   have RD' := Lib.hid RD
   clear RD
   have hp44 : pre.length = 44 := hpl
   have zz1 : (44 : Int) < (n : Int) := by have := HSL.out; omega
   have zz2 : ¬ c = 44 := by omega
   have HSF := Lib.hid hself; have HPR := Lib.hid hpar; have HNM := Lib.hid hname
   clear hself hpar hname hid hpl
   go_wp2_with (first
    | (go_at_call 126; go_must (refine (HEXT.out 44 w7 hp44 hb7).mono ?_); rintro e w8 ⟨A8, co8, vs, rfl, hO8, hF8, hb8⟩; have hb78 := hb7.trans (hb8.mono hb7.size); obtain ⟨L0, L1, L2⟩ := three_cells ((hb78.block _ hcr4).trans HHCR.out))
    | (refine atConvert 27 9 ?_; refine asList rfl fun KK hKK => ?_; refine wp_toStr (.tmp 98) rfl (fun _ => True) _ ri rfl RD'.out ?_; refine hKK _ _ ?_; clear hKK KK)
    | (at_make; refine asList rfl fun KK hKK => ?_; refine go_makeV under174 info247 (by decide) (.const (.int .i64 0)) (.const (.int .i64 0)) rfl w6.heap.size .i64 .i64 0 rfl rfl (by decide) (Nat.le_refl _) ?_; intro w7 hO7 hb7 hs7; refine hKK _ _ ?_; clear hKK KK))
   go_ret2
   exact ⟨_, rfl, by have := hb78.size; omega, exX_new HRE.out HRS.out rfl rfl HNM.out HSF.out HPR.out rfl HTP.out (row_lower hO8 (by have := hb7.size; omega)) hF8, (hw6.trans (hb78.mono hb67)).alloc (by have := hb78.size; omega) _⟩
theorem entX_rec (D o n c : Nat) (r : Rec) (h : Bool) (its : List Item) (hs : Value) (w : World) (hsrc : SrcO w D o r.bytes) (hn : r.bytes.length = n) (hnc : n <= c) (hok : RokX r its) (hH : HandV w hs h) :
 Calls Tryz.prog 143 #[.slice (some ⟨D, o, none⟩) n c, hs, .bool false] w fun e w' => ∃ b, e = .returned (.tuple #[PB b, .nilIface]) /\ w.heap.size <= b /\ EntX w' b r h its (.pointer none) w.heap.size /\ Below w.heap.size w w' := by
 cases hd : r.d with
 | true => exact entX_core D o n c r h its 2 hs w hsrc hn hnc hok hH (by rw [hd]; rfl) (by decide) (by rw [hd]; decide) (by decide) (by decide) (by decide) (by decide)
 | false => exact entX_core D o n c r h its 0 hs w hsrc hn hnc hok hH (by rw [hd]; rfl) (by decide) (by rw [hd]; decide) (by decide) (by decide) (by decide) (by decide)
theorem entX120 (D o n c : Nat) (r : Rec) (h : Bool) (its : List Item) (hs : Value) (w : World) (hsrc : SrcO w D o r.bytes) (hn : r.bytes.length = n) (hnc : n <= c) (hok : RokX r its) (hH : HandV w hs h) :
 Calls Tryz.prog 120 #[.slice (some ⟨D, o, none⟩) n c, hs] w fun e w' => ∃ b, e = .returned (.tuple #[PB b, .nilIface]) /\ w.heap.size <= b /\ EntX w' b r h its (.pointer none) w.heap.size /\ Below w.heap.size w w' := by
 have H := Lib.hid (entX_rec D o n c r h its hs w hsrc hn hnc hok hH)
 clear hsrc hok hH
 go_enter Tryz.func120, Tryz.ntmps120
 go_wp2_with (go_at_call 143; go_must (refine H.out.mono ?_); rintro e w1 ⟨b, rfl, hbs, hE, hb⟩)
 go_ret2
 exact ⟨b, rfl, hbs, hE, hb⟩
end Go.Proofs.YtilgpaeeleknhaaGreatDoor
