/- A part of the proof of laws.FnIsoRock (see the last text). -/
import Derived.Test.YtilgpaeeleknhaaGreatDoorJr11
import Derived.Deep.RegionLaw
set_option linter.unusedSimpArgs false
set_option linter.unusedVariables false
set_option maxRecDepth 1000000
set_option maxHeartbeats 8000000
namespace Go.Proofs.YtilgpaeeleknhaaGreatDoor
open Go Go.RowKit
theorem step_at {ns : List Node} {p : Nat} (hp : p < ns.length) (x y : Node) (i : Nat) :
 (ns.set p x ++ [y]).getD i rootNode = if i = ns.length then y else if i = p then x else ns.getD i rootNode := by
 simp only [List.getD_eq_getElem?_getD, List.getElem?_append, List.length_set, List.getElem?_set]
 by_cases h1 : i = ns.length
 . subst h1; simp
 . by_cases h2 : i = p
   . subst h2; simp [hp, h1]
   . have h3 : ¬ p = i := fun h => h2 h.symm
     by_cases h4 : i < ns.length
     . simp [h1, h2, h3, h4]
     . have h5 : ¬ i - ns.length = 0 := by omega
       obtain ⟨d, hd⟩ : ∃ d, i - ns.length = d + 1 := ⟨i - ns.length - 1, by omega⟩
       simp [h1, h2, h3, h4, hd, List.getElem?_eq_none (Nat.le_of_not_lt h4)]
theorem Tree.root : Tree [rootNode] := by
 refine ⟨by simp, ?_, ?_, ?_⟩ <;> intro i hi <;> (have : i = 0 := by simpa using hi) <;> subst this <;> simp [kidsOf, rootNode]
theorem Tree.step {rock : Bool} {ns ms : List Node} {f : File} (h : Tree ns) (hs : stepFile rock ns f = some ms) : Tree ms := by
 unfold stepFile at hs
 simp only at hs
 split at hs
 case isFalse => cases hs
 case isTrue hp =>
  split at hs
  . cases hs
  . cases hs
    generalize placeOf (cutLast f.path.data.toList).1 (ns.map (·.f)) = p at hp ⊢
    have hpe : ns.getD p rootNode = ns[p] := by simp [List.getD_eq_getElem?_getD, List.getElem?_eq_getElem hp]
    have hk : ∀ i, i < ns.length + 1 -> kidsOf (ns.set p { ns[p] with kids := ns[p].kids ++ [ns.length] } ++ [newNode f (idOf rock ns.length (cutLast f.path.data.toList).2 f.dir) p (ns[p].level + 1)]) i
     = if i = ns.length then [] else if i = p then kidsOf ns p ++ [ns.length] else kidsOf ns i := by
     intro i hi
     unfold kidsOf
     rw [step_at hp]
     split
     . rfl
     . split
       . rw [hpe]
       . rfl
    have hr : ∀ i, i < ns.length + 1 -> parOf (ns.set p { ns[p] with kids := ns[p].kids ++ [ns.length] } ++ [newNode f (idOf rock ns.length (cutLast f.path.data.toList).2 f.dir) p (ns[p].level + 1)]) i
     = if i = ns.length then p else parOf ns i := by
     intro i hi
     unfold parOf
     rw [step_at hp]
     split
     . rfl
     . split
       . subst i; rw [hpe]
       . rfl
    have hlen : (ns.set p { ns[p] with kids := ns[p].kids ++ [ns.length] } ++ [newNode f (idOf rock ns.length (cutLast f.path.data.toList).2 f.dir) p (ns[p].level + 1)]).length = ns.length + 1 := by simp
    refine ⟨by rw [hlen]; omega, ?_, ?_, ?_⟩ <;> rw [hlen] <;> intro i hi <;> rw [hk i hi]
    . intro k hkm
      split at hkm
      . cases hkm
      . split at hkm
        . rw [List.mem_append, List.mem_singleton] at hkm
          rcases hkm with hkm | rfl
          . have := h.lt p hp k hkm; omega
          . omega
        . have := h.lt i (by omega) k hkm; omega
    . intro k hkm
      split at hkm
      . cases hkm
      . rename_i hin
        split at hkm
        . subst i
          rw [List.mem_append, List.mem_singleton] at hkm
          rcases hkm with hkm | rfl
          . have h1 := h.lt p hp k hkm
            rw [hr k (by omega), if_neg (by omega)]
            exact h.par p hp k hkm
          . rw [hr _ (by omega), if_pos rfl]
            exact ⟨rfl, hp⟩
        . have h1 := h.lt i (by omega) k hkm
          rw [hr k (by omega), if_neg (by omega)]
          exact h.par i (by omega) k hkm
    . split
      . simp
      . split
        . rw [List.nodup_append]
          refine ⟨h.nodup p hp, by simp, fun a ha b hb e => ?_⟩
          rw [List.mem_singleton] at hb
          have := h.lt p hp a ha
          omega
        . exact h.nodup i (by omega)
theorem addFiles_tree {rock : Bool} {l : List File} {ns ms : List Node} (h : addFiles rock ns l = some ms) (hs : Tree ns) : Tree ms := by
 induction l generalizing ns with
 | nil => cases h; exact hs
 | cons f l ih =>
   simp only [addFiles] at h
   cases hf : stepFile rock ns f with
   | none => rw [hf] at h; cases h
   | some ms' => rw [hf] at h; exact ih h (hs.step hf)
theorem Shuf.at {ns ms : List Node} (h : Shuf ns ms) (i : Nat) (hi : i < ns.length) : ∃ l, l.Perm (kidsOf ns i) /\ ms.getD i rootNode = { ns.getD i rootNode with kids := l } := by
 obtain ⟨l, hl, e⟩ := h.2 i hi (by rw [<- h.1]; exact hi)
 refine ⟨l, ?_, ?_⟩
 . simpa [kidsOf, List.getD_eq_getElem?_getD, List.getElem?_eq_getElem hi] using hl
 . have hi' : i < ms.length := by rw [<- h.1]; exact hi
   simp only [List.getD_eq_getElem?_getD, List.getElem?_eq_getElem hi, List.getElem?_eq_getElem hi', Option.getD_some, e]
theorem Shuf.tree {ns ms : List Node} (h : Shuf ns ms) (ht : Tree ns) : Tree ms := by
 have hk : ∀ i, i < ns.length -> (kidsOf ms i).Perm (kidsOf ns i) /\ parOf ms i = parOf ns i := by
  intro i hi
  obtain ⟨l, hl, e⟩ := h.at i hi
  simp only [kidsOf, parOf, e]
  exact ⟨hl, trivial⟩
 refine ⟨by rw [<- h.1]; exact ht.pos, ?_, ?_, ?_⟩ <;> rw [<- h.1] <;> intro i hi
 . intro k hkm
   exact ht.lt i hi k ((hk i hi).1.mem_iff.1 hkm)
 . intro k hkm
   have hm := (hk i hi).1.mem_iff.1 hkm
   rw [(hk k (ht.lt i hi k hm)).2]
   exact ht.par i hi k hm
 . exact ((hk i hi).1.nodup_iff).2 (ht.nodup i hi)
structure OutV (w : World) (B V : Nat) (A : Option Addr) (c : Nat) (l : List UInt8) : Prop where
 heap : w.heap[V]? = some (.cells #[.slice A l.length c] 27)
 own : Own w B (.slice A l.length c) l
 le : B <= V
theorem OutV.cell {w : World} {B V c : Nat} {A : Option Addr} {l : List UInt8} (h : OutV w B V A c l) : w.cell? ⟨V, 0, none⟩ = some (.slice A l.length c) := by
 simp [World.cell?, h.heap]
theorem OutV.lt {w : World} {B V c : Nat} {A : Option Addr} {l : List UInt8} (h : OutV w B V A c l) : V < w.heap.size := (Array.getElem?_eq_some_iff.1 h.heap).1
theorem OutV.ne {w : World} {B V c : Nat} {A : Option Addr} {l : List UInt8} (h : OutV w B V A c l) : (Value.slice A l.length c).ownBlock ≠ some V := by
 intro e
 rcases h.own.2 with ⟨hv, _⟩ | ⟨g, cap, cur, hv, _, hg, _⟩
 . rw [hv] at e; simp [Value.ownBlock] at e
 . rw [hv] at e
   simp only [Value.ownBlock, Option.some.injEq] at e
   subst e
   rw [h.heap] at hg
   simp at hg
theorem OutV.store {w w' : World} {B V c c' : Nat} {A A' : Option Addr} {l l' : List UInt8} (h : OutV w B V A c l) (hO : Own w' B (.slice A' l'.length c') l') (hg : w.grownBy w' (Value.slice A l.length c).ownBlock) :
 OutV (w'.setCell ⟨V, 0, none⟩ (.slice A' l'.length c')) B V A' c' l' /\ w'.cell? ⟨V, 0, none⟩ = some (.slice A l.length c) /\ w'.frozen? ⟨V, 0, none⟩ = false := by
 have hV : w'.heap[V]? = some (.cells #[.slice A l.length c] 27) := by rw [hg.block V h.lt (fun e => h.ne e.symm)]; exact h.heap
 refine ⟨⟨?_, ?_, h.le⟩, by simp [World.cell?, hV], by simp [World.frozen?, hV]⟩
 . have := heap_setCell_same w' V 0 #[.slice A l.length c] 27 (.slice A' l'.length c') hV
   simpa using this
 . refine ⟨hO.1, ?_⟩
   rcases hO.2 with hn | ⟨g, cap, cur, hv, hb', hg', rest⟩
   . exact .inl hn
   . refine .inr ⟨g, cap, cur, hv, hb', ?_, rest⟩
     rw [heap_setCell_other w' ⟨V, 0, none⟩ g _ (fun e => by
      have e' : g = V := e
      subst e'; rw [hV] at hg'; simp at hg')]
     exact hg'
theorem go_appW {o : Oper} {a : Act} {w wa : World} {K : Act -> World -> Prop} {Q : Exit -> Act -> World -> Prop} (s x : Operand) (ho : o.op = .call { callee := .builtin .append, args := #[s, x], argTypes := #[27, 27] })
 (B N n q c : Nat) (A : Option Addr) (us : Array Value) (l m : List UInt8) (hn : n = l.length) (hs : a.eval s = .slice A n c) (hown : Own w B (.slice A n c) l) (hq : q = m.length)
 (hwa : Below w.heap.size w wa) (hwc : wa.heap[w.heap.size]? = some (.cells us 5)) (hN : w.heap.size = N) (hx : a.eval x = .slice (some ⟨N, 0, none⟩) q q) (hu : us = (BVs m).toArray) (hlen : n + q <= 1000000000) (hB : B <= w.heap.size)
 (h : ∀ A' c' w', Own w' B (.slice A' (n + q) c') (l ++ m) -> Below B w w' -> w.grownBy w' (Value.slice A n c).ownBlock -> K (a.put o.dst (.slice A' (n + q) c')) w') :
 Oper.wp Tryz.prog o a wa K Q := by
 subst hN; subst hu; subst hn; subst hq
 have hr : Rd wa (w.heap.size + 1) (.slice (some ⟨w.heap.size, 0, none⟩) m.length m.length) m := by
  refine ⟨_, _, rfl, (by intro ad e; cases e; exact Nat.lt_succ_self _), fun j u hj => ⟨_, rfl, ?_⟩⟩
  rw [Addr.add_mid, Nat.zero_add]
  simp only [World.cell?, hwc]
  simpa using hj
 refine wp_appB_of Tryz.underlying27 info5 s x ho B (w.heap.size + 1) _ _ l m hs (hown.later hwa) hx hr (by omega) (Nat.le_trans hB hwa.size) ?_
 intro A' c' w' L hL h1 h2 hO hg hb
 have e := hL.out
 subst e
 rw [List.length_append] at hO
 rw [List.length_append]
 refine h A' c' w' hO ((hwa.mono hB).trans hb) ?_
 refine ⟨hg.os.trans hwa.os, hg.tape.trans hwa.tape, hg.output.trans hwa.output, Nat.le_trans hwa.size hg.size, fun k hk hr => ?_⟩
 rw [hg.block k (Nat.lt_of_lt_of_le hk hwa.size) hr]
 exact hwa.block k hk
def putB (n : Nat) (little : Bool) (k j : Nat) : UInt8 := u8 (n / 2 ^ (8 * (if little then j else k - 1 - j)))
def putL (n : Nat) (little : Bool) (k : Nat) : Nat -> List UInt8
 | 0 => []
 | j + 1 => putL n little k j ++ [putB n little k j]
theorem putL_length (n : Nat) (little : Bool) (k j : Nat) : (putL n little k j).length = j := by
 induction j with
 | zero => rfl
 | succ j ih => simp [putL, ih]
theorem put_byte (n : Nat) (s : Int) (t : Nat) (h : s.toNat = 8 * t) : IntKind.u8.wrap ((n : Int) / 2 ^ s.toNat) = ((u8 (n / 2 ^ (8 * t))).toNat : Int) := by
 rw [h, u8_toNat, IntKind.wrap_u8]
 rw [Int.natCast_emod, Int.natCast_ediv, Int.natCast_pow]
 rfl
theorem OutV.put1 {w w' : World} {B V c c' m Lb : Nat} {little : Bool} {A A' : Option Addr} {l : List UInt8} {b : UInt8} (h : OutV w B V A c l) (hm : l.length = m) (hL : w.heap[Lb]? = some (.cells #[.bool little] 4)) (hO : Own w' B (.slice A' (m + 1) c') (l ++ [b])) (hg : w.grownBy w' (Value.slice A m c).ownBlock) :
 OutV (w'.setCell ⟨V, 0, none⟩ (.slice A' (m + 1) c')) B V A' c' (l ++ [b]) /\ w'.cell? ⟨V, 0, none⟩ = some (.slice A m c) /\ w'.frozen? ⟨V, 0, none⟩ = false /\ (w'.setCell ⟨V, 0, none⟩ (.slice A' (m + 1) c')).heap[Lb]? = some (.cells #[.bool little] 4) := by
 subst hm
 have e : (l ++ [b]).length = l.length + 1 := by simp
 rw [<- e] at hO
 have hs := h.store hO hg
 rw [e] at hs
 refine ⟨hs.1, hs.2.1, hs.2.2, ?_⟩
 have hlt : Lb < w.heap.size := (Array.getElem?_eq_some_iff.1 hL).1
 rw [heap_setCell_other w' ⟨V, 0, none⟩ Lb _ (fun e => by
  have e' : Lb = V := e
  subst e'; rw [h.heap] at hL; simp at hL)]
 rw [hg.block Lb hlt ?_]
 . exact hL
 . intro e
   rcases h.own.2 with ⟨hv, _⟩ | ⟨g, cap, cur, hv, _, hg', _⟩
   . rw [hv] at e; simp [Value.ownBlock] at e
   . rw [hv] at e
     simp only [Value.ownBlock, Option.some.injEq] at e
     subst e
     rw [hL] at hg'; simp at hg'
theorem put_any (n k : Nat) (little : Bool) (Lb V B c : Nat) (A : Option Addr) (l : List UInt8) (w : World) (hn : n < 4294967296) (hk : k <= 4) (hL : w.heap[Lb]? = some (.cells #[.bool little] 4)) (hV : OutV w B V A c l) (hlen : l.length <= 900000000) :
 Calls Tryz.prog 52 #[.int .u32 n, .int .i64 k, .pointer (some ⟨Lb, 0, none⟩), .pointer (some ⟨V, 0, none⟩)] w fun e w' => ∃ A' c', e = .returned (.tuple #[]) /\ OutV w' B V A' c' (l ++ putL n little k k) /\ Below B w w' /\ w'.heap[Lb]? = some (.cells #[.bool little] 4) := by
 go_enter Tryz.func52, Tryz.ntmps52
 go_wp2_with (fail)
 go_loopw [9] (fun iv wr => ∃ (j : Nat) (A' : Option Addr) (c' : Nat), j <= k /\ iv = .int .i64 j /\ OutV wr B V A' c' (l ++ putL n little k j) /\ Below B w wr /\ wr.heap[Lb]? = some (.cells #[.bool little] 4)) (fun iv _ => k - (intOf iv).toNat)
 case atStart => exact ⟨0, A, c, by omega, rfl, by simpa [putL] using hV, Below.refl _ _, hL⟩
 case round =>
  clear hV hL
  obtain ⟨j, A', c', hj, rfl, hO, hb, hL⟩ := hrel
  by_cases hlt : j < k
  . have hcL : wr.cell? ⟨Lb, 0, none⟩ = some (.bool little) := by simp [World.cell?, hL]
    have hcV := hO.cell
    obtain ⟨m, hm⟩ : ∃ m, (l ++ putL n little k j).length = m := ⟨_, rfl⟩
    rw [hm] at hcV
    have HM := Lib.hid hm
    have HL := Lib.hid hL
    clear hm hL
    have hVlt := hO.lt
    have hBle : B <= wr.heap.size := Nat.le_trans hO.le (Nat.le_of_lt hO.lt)
    have hml : m <= 900000004 := by rw [<- HM.out, List.length_append, putL_length]; omega
    have HO := Lib.hid hO
    clear hO
    cases little with
    | true =>
      have hval : IntKind.u8.wrap ((n : Int) / 2 ^ (8 * (j : Int)).toNat) = ((putB n true k j).toNat : Int) := put_byte n _ _ (by simp only [if_true]; omega)
      go_wp2_with (fail)
      go_region_law (first
       | (refine asStep rfl ?_; go_must (refine go_appW (w := wr) (.tmp 20) (.tmp 25) rfl B wr.heap.size m 1 c' A' _ (l ++ putL n true k j) [putB n true k j] HM.out.symm rfl (by rw [<- HM.out]; exact HO.out.own) rfl ((Below.refl _ _).alloc (Nat.le_refl _) _).drew (by show (wr.heap.push _)[wr.heap.size]? = _; rw [Array.getElem?_push_size]; rfl) rfl rfl rfl (by omega) hBle ?_); go_must (intro A2 c2 w2 hO2 hb2 hg2); go_must (obtain ⟨hV2, hc2, hf2, hL2⟩ := HO.out.put1 HM.out HL.out hO2 hg2)))
      all_goals
       go_wp2_with (fail)
       go_roundw
       case rel => exact ⟨j + 1, A2, c2, hlt, by simp, by rw [putL, <- List.append_assoc]; exact hV2, (hb.trans hb2).setCell HO.out.le _, hL2⟩
       case measure => simp [intOf]; omega
    | false =>
      have hval : IntKind.u8.wrap ((n : Int) / 2 ^ (8 * ((k : Int) - 1 - (j : Int))).toNat) = ((putB n false k j).toNat : Int) := put_byte n _ _ (by simp only [Bool.false_eq_true, if_false]; omega)
      go_wp2_with (fail)
      go_region_law (first
       | (refine asStep rfl ?_; go_must (refine go_appW (w := wr) (.tmp 20) (.tmp 25) rfl B wr.heap.size m 1 c' A' _ (l ++ putL n false k j) [putB n false k j] HM.out.symm rfl (by rw [<- HM.out]; exact HO.out.own) rfl ((Below.refl _ _).alloc (Nat.le_refl _) _).drew (by show (wr.heap.push _)[wr.heap.size]? = _; rw [Array.getElem?_push_size]; rfl) rfl rfl rfl (by omega) hBle ?_); go_must (intro A2 c2 w2 hO2 hb2 hg2); go_must (obtain ⟨hV2, hc2, hf2, hL2⟩ := HO.out.put1 HM.out HL.out hO2 hg2)))
      all_goals
       go_wp2_with (fail)
       go_roundw
       case rel => exact ⟨j + 1, A2, c2, hlt, by simp, by rw [putL, <- List.append_assoc]; exact hV2, (hb.trans hb2).setCell HO.out.le _, hL2⟩
       case measure => simp [intOf]; omega
  . have e : j = k := by omega
    subst e
    have HO := Lib.hid hO
    clear hO
    go_wp2_with (fail)
    exact bodyPost_end (v := .tuple #[]) (by simp [results, Tryz.f52]) rfl ⟨A', c', rfl, HO.out, hb, hL⟩
abbrev nodeAt (ns : List Node) (i : Nat) : Node := ns.getD i rootNode
def pathId (ns : List Node) (i : Nat) : List UInt8 := if i = 0 then [0] else (nodeAt ns i).id.data.toList
def pathRec (ns : List Node) (little : Bool) (i : Nat) : List UInt8 :=
 [u8 (pathId ns i).length, 0] ++ putL (nodeAt ns i).extent little 4 4 ++ putL (nodeAt ns (nodeAt ns i).parent).number little 2 2 ++ pathId ns i ++ (if (pathId ns i).length % 2 = 1 then [0] else [])
def pathsL (ns : List Node) (little : Bool) (dirs : List Nat) : List UInt8 := dirs.flatMap (pathRec ns little)
structure PV (w0 w : World) (V Lb : Nat) (little : Bool) (A : Option Addr) (c : Nat) (l : List UInt8) : Prop where
 out : OutV w w0.heap.size V A c l
 lb : w.heap[Lb]? = some (.cells #[.bool little] 4)
 below : Below w0.heap.size w0 w
structure PS (w0 w : World) (V Lb : Nat) (little : Bool) (A : Option Addr) (c : Nat) (l : List UInt8) (m : Nat) : Prop where
 pv : PV w0 w V Lb little A c l
 len : l.length = m
theorem PS.cell {w0 w : World} {V Lb c m : Nat} {little : Bool} {A : Option Addr} {l : List UInt8} (h : PS w0 w V Lb little A c l m) : w.cell? ⟨V, 0, none⟩ = some (.slice A m c) := by rw [<- h.len]; exact h.pv.out.cell
theorem PS.own {w0 w : World} {V Lb c m : Nat} {little : Bool} {A : Option Addr} {l : List UInt8} (h : PS w0 w V Lb little A c l m) : Own w w0.heap.size (.slice A m c) l := by rw [<- h.len]; exact h.pv.out.own
theorem PS.ge {w0 w : World} {V Lb c m : Nat} {little : Bool} {A : Option Addr} {l : List UInt8} (h : PS w0 w V Lb little A c l m) : w0.heap.size <= w.heap.size := h.pv.below.size
theorem PS.app {w0 w w' : World} {V Lb c c' m n : Nat} {little : Bool} {A A' : Option Addr} {l bs : List UInt8} (h : PS w0 w V Lb little A c l m) (hO : Own w' w0.heap.size (.slice A' n c') (l ++ bs)) (hn : n = m + bs.length) (hg : w.grownBy w' (Value.slice A m c).ownBlock) (hb : Below w0.heap.size w w') :
 (∃ l', Hid (l' = l ++ bs) /\ PS w0 (w'.setCell ⟨V, 0, none⟩ (.slice A' n c')) V Lb little A' c' l' n) /\ w'.cell? ⟨V, 0, none⟩ = some (.slice A m c) /\ w'.frozen? ⟨V, 0, none⟩ = false := by
 subst hn
 obtain ⟨h, hm⟩ := h
 subst hm
 have e : (l ++ bs).length = l.length + bs.length := List.length_append
 rw [<- e] at hO
 have hs := h.out.store hO hg
 rw [e] at hs
 refine ⟨⟨_, rfl, ⟨hs.1, ?_, (h.below.trans hb).setCell h.out.le _⟩, e⟩, hs.2.1, hs.2.2⟩
 have hL := h.lb
 have hlt : Lb < w.heap.size := (Array.getElem?_eq_some_iff.1 hL).1
 rw [heap_setCell_other w' ⟨V, 0, none⟩ Lb _ (fun e => by
  have e' : Lb = V := e
  subst e'; rw [h.out.heap] at hL; simp at hL)]
 rw [hg.block Lb hlt ?_]
 . exact hL
 . intro e
   rcases h.out.own.2 with ⟨hv, _⟩ | ⟨g, cap, cur, hv, _, hg', _⟩
   . rw [hv] at e; simp [Value.ownBlock] at e
   . rw [hv] at e
     simp only [Value.ownBlock, Option.some.injEq] at e
     subst e
     rw [hL] at hg'; simp at hg'
theorem PS.put {w0 w : World} {V Lb c m : Nat} {little : Bool} {A : Option Addr} {l : List UInt8} (h : PS w0 w V Lb little A c l m) (n k : Nat) (hn : n < 4294967296) (hk : k <= 4) (hm : m <= 900000000) :
 Calls Tryz.prog 52 #[.int .u32 n, .int .i64 k, .pointer (some ⟨Lb, 0, none⟩), .pointer (some ⟨V, 0, none⟩)] w fun e w' => e = .returned (.tuple #[]) /\ ∃ A' c' l' m', Hid (l' = l ++ putL n little k k) /\ m' <= m + k /\ PS w0 w' V Lb little A' c' l' m' := by
 obtain ⟨h, hl⟩ := h
 refine (put_any n k little Lb V w0.heap.size c A l w hn hk h.lb h.out (by omega)).mono ?_
 rintro e w' ⟨A', c', rfl, hO, hb, hL⟩
 exact ⟨rfl, A', c', _, m + k, rfl, Nat.le_refl _, ⟨hO, hL, h.below.trans hb⟩, by rw [List.length_append, putL_length, hl]⟩
theorem PS.start {w : World} {little : Bool} : PS w ((w.alloc (.cells #[.bool little] 4)).alloc (.cells #[.slice none 0 0] 27)) (w.heap.size + 1) w.heap.size little none 0 [] 0 := by
 have h1 : (w.alloc (.cells #[.bool little] 4)).heap.size = w.heap.size + 1 := by simp
 refine ⟨⟨⟨?_, Own.nil _ _, by omega⟩, ?_, ((Below.refl _ _).alloc (Nat.le_refl _) _).alloc (by omega) _⟩, rfl⟩
 . show ((w.heap.push _).push _)[w.heap.size + 1]? = _
   rw [Array.getElem?_push]; simp
 . show ((w.heap.push _).push _)[w.heap.size]? = _
   rw [Array.getElem?_push, if_neg (by simp), Array.getElem?_push_size]
theorem pathsL_step (ns : List Node) (little : Bool) (dirs : List Nat) (i d : Nat) (hi : i < dirs.length) (hd : dirs.getD i 0 = d) : pathsL ns little (dirs.take (i + 1)) = pathsL ns little (dirs.take i) ++ pathRec ns little d := by
 rw [take_snoc hi, hd]
 simp [pathsL]
theorem nodeAt_ns (xs : List XNode) (i : Nat) (h : i < xs.length) : nodeAt (XNode.ns xs) i = xs[i].toNode := by
 simp [nodeAt, XNode.ns, List.getD_eq_getElem?_getD, h]
theorem pathRec_ns (xs : List XNode) (little : Bool) (d : Nat) (h : d < xs.length) (hp : xs[d].parent < xs.length) (t : List UInt8) (ht : t = if d = 0 then [0] else xs[d].id.data.toList) (z : List UInt8) (hz : z = if t.length % 2 = 1 then [0] else []) :
 pathRec (XNode.ns xs) little d = [u8 t.length, 0] ++ putL xs[d].extent little 4 4 ++ putL xs[xs[d].parent].number little 2 2 ++ t ++ z := by
 have e : pathId (XNode.ns xs) d = t := by rw [ht, pathId, nodeAt_ns xs d h]
 have e2 : (nodeAt (XNode.ns xs) d).parent = xs[d].parent := by rw [nodeAt_ns xs d h]
 unfold pathRec
 rw [e, e2, nodeAt_ns xs d h, nodeAt_ns xs _ hp, hz]
theorem par_odd (n s : Nat) (e : n = s) (h : ((s : Int) % 2 == 1) = true) : ([0] : List UInt8) = if n % 2 = 1 then [0] else [] := by
 have := eq_of_beq h
 rw [if_pos (by omega)]
theorem par_even (n s : Nat) (e : n = s) (h : ((s : Int) % 2 == 1) = false) : ([] : List UInt8) = if n % 2 = 1 then [0] else [] := by
 have := ne_of_beq_false h
 rw [if_neg (by omega)]
theorem lit2 (n : Nat) : (#[Value.int .u8 ((n : Int) % 256), .int .u8 0] : Array Value) = (BVs [u8 n, 0]).toArray := by
 have : ((n : Int) % 256) = ((u8 n).toNat : Int) := by rw [u8_toNat, Int.natCast_emod]; rfl
 rw [this]; rfl
theorem go_appSW {o : Oper} {a : Act} {w : World} {K : Act -> World -> Prop} {Q : Exit -> Act -> World -> Prop} (s x : Operand) (ho : o.op = .call { callee := .builtin .append, args := #[s, x], argTypes := #[27, 9] })
 (B n c q : Nat) (A : Option Addr) (l : List UInt8) (t : ByteArray) (hq : t.size = q) (hn : n = l.length) (hs : a.eval s = .slice A n c) (hown : Own w B (.slice A n c) l) (hx : a.eval x = .string t) (hlen : n + q <= 1000000000) (hB : B <= w.heap.size)
 (h : ∀ A' c' w', Own w' B (.slice A' (n + q) c') (l ++ t.data.toList) -> Below B w w' -> w.grownBy w' (Value.slice A n c).ownBlock -> K (a.put o.dst (.slice A' (n + q) c')) w') :
 Oper.wp Tryz.prog o a w K Q := by
 subst hn; subst hq
 refine wp_appS_of Tryz.underlying27 Tryz.underlying9 info5 s x ho B _ l t hs hown hx hlen hB ?_
 intro A' c' w' L hL h1 h2 hO hg hb
 have e := hL.out
 subst e
 have e2 : (l ++ t.data.toList).length = l.length + t.size := by rw [List.length_append, Array.length_toList]; rfl
 rw [e2] at hO ⊢
 exact h A' c' w' hO hb hg
theorem isoPaths_any (g c co : Nat) (A : Option Addr) (xs : List XNode) (dirs : List Nat) (little : Bool) (Bd : Nat) (w : World) (hN : NodesC w g xs) (hg : g < w.heap.size) (hD : OwnI w Bd (.slice A dirs.length co) dirs) (hdl : dirs.length <= 100001)
 (hd : ∀ d ∈ dirs, d < xs.length) (hp : ∀ (i : Nat) (h : i < xs.length), xs[i].parent < xs.length) (hid : ∀ (i : Nat) (h : i < xs.length), xs[i].id.size <= 2000) (hex : ∀ (i : Nat) (h : i < xs.length), xs[i].extent < 4294967296) (hnu : ∀ (i : Nat) (h : i < xs.length), xs[i].number < 4294967296) :
 Calls Tryz.prog 31 #[.slice (some ⟨g, 0, none⟩) xs.length c, .slice A dirs.length co, .bool little] w fun e w' => ∃ A' c', e = .returned (.slice A' (pathsL (XNode.ns xs) little dirs).length c') /\ Own w' w.heap.size (.slice A' (pathsL (XNode.ns xs) little dirs).length c') (pathsL (XNode.ns xs) little dirs) /\ Below w.heap.size w w' := by
 have HN := Lib.hid hN; have HD := Lib.hid hD
 clear hN hD
 go_enter Tryz.func31, Tryz.ntmps31
 go_wp2_with (fail)
 go_loopw [10, 11, 15] (fun _ _ iv wr => ∃ (i m c' : Nat) (A' : Option Addr) (l : List UInt8), i <= dirs.length /\ iv = .int .i64 i /\ PS w wr (w.heap.size + 1) w.heap.size little A' c' l m /\ m <= i * 2100 /\ Hid (l = pathsL (XNode.ns xs) little (dirs.take i))) (fun _ _ iv _ => dirs.length - (intOf iv).toNat)
 case atStart => exact ⟨0, 0, 0, none, [], by omega, rfl, PS.start, by omega, by simp [Hid, pathsL]⟩
 case round =>
  obtain ⟨i, m, c', A', l, hi, rfl, hP, hm, hl⟩ := hrel
  by_cases hlt : i < dirs.length
  . obtain ⟨go, rfl, hgo⟩ := (show OwnI wr Bd (.slice A dirs.length co) dirs from ownsRow_keep HD.out hP.pv.below (fun k hk => (World.ownsRow.lt HD.out k hk).2)).cell i hlt
    obtain ⟨d, hdd⟩ : ∃ d, dirs.getD i 0 = d := ⟨_, rfl⟩
    rw [hdd] at hgo
    have hdl' : d < xs.length := by rw [<- hdd]; exact hd _ (getD_mem hlt)
    have NC : ∀ W : World, Below w.heap.size w W -> ∀ (i : Nat) (h : i < xs.length) (j : Nat) (u : Value), xs[i].cells[j]? = some u -> W.cell? ⟨g, i * 18 + j, none⟩ = some u := fun W hW => HN.out.keep hW hg
    have NC' := Lib.hid NC
    clear NC
    have cid := NC'.out _ hP.pv.below d hdl' 8 _ rfl
    have cex := NC'.out _ hP.pv.below d hdl' 11 _ rfl
    have cpa := NC'.out _ hP.pv.below d hdl' 9 _ rfl
    have hcV := hP.cell
    have hil : (xs[d].id).size <= 2000 := hid d hdl'
    have hpq := hp d hdl'
    have hnq := hnu _ hpq
    have HP := Lib.hid hP
    clear hP
    by_cases hd0 : d = 0
    . subst hd0
      simp only [Nat.zero_mul, Nat.zero_add] at cid cex cpa
      go_wp2_with (first
       | (at_builtin; refine asList rfl fun KK hKK => ?_; refine go_appW (w := w5.setCell ⟨w.heap.size + 1, 0, none⟩ (.slice A5 (m4 + 1) c5)) (.tmp 58) (.tmp 59) rfl w.heap.size w5.heap.size (m4 + 1) 1 c5 A5 _ l5 [0] HP5.out.len.symm rfl HP5.out.own rfl ((Below.refl _ _).alloc (Nat.le_refl _) _) (by show ((w5.setCell _ _).heap.push _)[(w5.setCell _ _).heap.size]? = _; rw [Array.getElem?_push_size]) (by simp) rfl (by rfl) (by omega) HP5.out.ge ?_; intro A6 c6 w6 hO6 hb6 hg6; refine hKK _ _ ?_; clear hKK KK; obtain ⟨⟨l6, hl6, hP6⟩, hcV6, hfV6⟩ := HP5.out.app hO6 rfl hg6 hb6; have HP6 := Lib.hid hP6; clear hP6)
       | (at_builtin; refine asList rfl fun KK hKK => ?_; refine go_appSW (.tmp 51) (.tmp 52) rfl w.heap.size m4 c4 1 A4 l4 (⟨#[0]⟩ : ByteArray) rfl HP4.out.len.symm rfl HP4.out.own rfl (by omega) HP4.out.ge ?_; intro A5 c5 w5 hO5 hb5 hg5; refine hKK _ _ ?_; clear hKK KK; obtain ⟨⟨l5, hl5, hP5⟩, hcV5, hfV5⟩ := HP4.out.app hO5 (by rfl) hg5 hb5; have HP5 := Lib.hid hP5; clear hP5)
       | (go_at_call 52; refine (HP3.out.put xs[xs[0].parent].number 2 hnq (by omega) (by omega)).mono ?_; rintro e w4 ⟨rfl, A4, c4, l4, m4, hl4, hm4, hP4⟩; have hcV4 := hP4.cell; have HP4 := Lib.hid hP4; clear hP4)
       | (go_at_call 52; refine (HP2.out.put xs[0].extent 4 (hex 0 hdl') (by omega) (by omega)).mono ?_; rintro e w3 ⟨rfl, A3, c3, l3, m3, hl3, hm3, hP3⟩; have hcV3 := hP3.cell; have cpa3 := NC'.out _ hP3.pv.below 0 hdl' 9 _ rfl; simp only [Nat.zero_mul, Nat.zero_add] at cpa3; have cnu3 := NC'.out _ hP3.pv.below _ hpq 16 _ rfl; have HP3 := Lib.hid hP3; clear hP3)
       | (at_builtin; refine asList rfl fun KK hKK => ?_; go_must (refine go_appW (w := wr) (.tmp 26) (.tmp 30) rfl w.heap.size wr.heap.size m 2 c' A' _ l [u8 1, 0] HP.out.len.symm rfl HP.out.own rfl ((Below.refl _ _).alloc (Nat.le_refl _) _) (by show (wr.heap.push _)[wr.heap.size]? = _; rw [Array.getElem?_push_size]) rfl rfl (by rfl) (by omega) HP.out.ge ?_); intro A2 c2 w2 hO2 hb2 hg2; refine hKK _ _ ?_; clear hKK KK; obtain ⟨⟨l2, hl2, hP2⟩, hcV2, hfV2⟩ := HP.out.app hO2 rfl hg2 hb2; have HP2 := Lib.hid hP2; clear hP2; have cex2 := NC'.out _ HP2.out.pv.below 0 hdl' 11 _ rfl; simp only [Nat.zero_mul, Nat.zero_add] at cex2))
      . go_roundw
        case rel =>
         refine ⟨i + 1, m4 + 1 + 1, c6, A6, l6, hlt, by simp, HP6.out, by omega, ?_⟩
         unfold Hid
         rw [pathsL_step _ _ _ i 0 hlt hdd, pathRec_ns xs little 0 hdl' hpq [0] (by simp) [0] (par_odd _ _ (by rfl) (by decide)), hl6.out, hl5.out, hl4.out, hl3.out, hl2.out, hl.out]
         simp [List.append_assoc]
        case measure => simp [intOf]; omega
    . go_wp2_with (first
       | (at_builtin; refine asList rfl fun KK hKK => ?_; refine go_appW (w := w5.setCell ⟨w.heap.size + 1, 0, none⟩ (.slice A5 (m4 + xs[d].id.size) c5)) (.tmp 58) (.tmp 59) rfl w.heap.size w5.heap.size (m4 + xs[d].id.size) 1 c5 A5 _ l5 [0] HP5.out.len.symm rfl HP5.out.own rfl ((Below.refl _ _).alloc (Nat.le_refl _) _) (by show ((w5.setCell _ _).heap.push _)[(w5.setCell _ _).heap.size]? = _; rw [Array.getElem?_push_size]) (by simp) rfl (by rfl) (by omega) HP5.out.ge ?_; intro A6 c6 w6 hO6 hb6 hg6; refine hKK _ _ ?_; clear hKK KK; obtain ⟨⟨l6, hl6, hP6⟩, hcV6, hfV6⟩ := HP5.out.app hO6 rfl hg6 hb6; have HP6 := Lib.hid hP6; clear hP6)
       | (at_builtin; refine asList rfl fun KK hKK => ?_; refine go_appSW (.tmp 51) (.tmp 52) rfl w.heap.size m4 c4 xs[d].id.size A4 l4 xs[d].id rfl HP4.out.len.symm rfl HP4.out.own rfl (by omega) HP4.out.ge ?_; intro A5 c5 w5 hO5 hb5 hg5; refine hKK _ _ ?_; clear hKK KK; obtain ⟨⟨l5, hl5, hP5⟩, hcV5, hfV5⟩ := HP4.out.app hO5 (by rw [Array.length_toList]; rfl) hg5 hb5; have HP5 := Lib.hid hP5; clear hP5)
       | (go_at_call 52; refine (HP3.out.put xs[xs[d].parent].number 2 hnq (by omega) (by omega)).mono ?_; rintro e w4 ⟨rfl, A4, c4, l4, m4, hl4, hm4, hP4⟩; have hcV4 := hP4.cell; have HP4 := Lib.hid hP4; clear hP4)
       | (go_at_call 52; refine (HP2.out.put xs[d].extent 4 (hex d hdl') (by omega) (by omega)).mono ?_; rintro e w3 ⟨rfl, A3, c3, l3, m3, hl3, hm3, hP3⟩; have hcV3 := hP3.cell; have cpa3 := NC'.out _ hP3.pv.below d hdl' 9 _ rfl; have cnu3 := NC'.out _ hP3.pv.below _ hpq 16 _ rfl; have HP3 := Lib.hid hP3; clear hP3)
       | (at_builtin; refine asList rfl fun KK hKK => ?_; go_must (refine go_appW (w := wr) (.tmp 26) (.tmp 30) rfl w.heap.size wr.heap.size m 2 c' A' _ l [u8 xs[d].id.size, 0] HP.out.len.symm rfl HP.out.own rfl ((Below.refl _ _).alloc (Nat.le_refl _) _) (by show (wr.heap.push _)[wr.heap.size]? = _; rw [Array.getElem?_push_size]) rfl rfl (lit2 _) (by omega) HP.out.ge ?_); intro A2 c2 w2 hO2 hb2 hg2; refine hKK _ _ ?_; clear hKK KK; obtain ⟨⟨l2, hl2, hP2⟩, hcV2, hfV2⟩ := HP.out.app hO2 rfl hg2 hb2; have HP2 := Lib.hid hP2; clear hP2; have cex2 := NC'.out _ HP2.out.pv.below d hdl' 11 _ rfl))
      . go_roundw
        case rel =>
         refine ⟨i + 1, m4 + xs[d].id.size + 1, c6, A6, l6, hlt, by simp, HP6.out, by omega, ?_⟩
         unfold Hid
         rw [pathsL_step _ _ _ i d hlt hdd, pathRec_ns xs little d hdl' hpq xs[d].id.data.toList (by rw [if_neg hd0]) [0] (par_odd _ _ (by rw [Array.length_toList]; rfl) ‹((xs[d].id.size : Int) % 2 == 1) = true›), hl6.out, hl5.out, hl4.out, hl3.out, hl2.out, hl.out]
         simp [List.append_assoc]
        case measure => simp [intOf]; omega
      . go_roundw
        case rel =>
         refine ⟨i + 1, m4 + xs[d].id.size, c5, A5, l5, hlt, by simp, HP5.out, by omega, ?_⟩
         unfold Hid
         rw [pathsL_step _ _ _ i d hlt hdd, pathRec_ns xs little d hdl' hpq xs[d].id.data.toList (by rw [if_neg hd0]) [] (par_even _ _ (by rw [Array.length_toList]; rfl) ‹((xs[d].id.size : Int) % 2 == 1) = false›), hl5.out, hl4.out, hl3.out, hl2.out, hl.out]
         simp [List.append_assoc]
        case measure => simp [intOf]; omega
  . have e : i = dirs.length := by omega
    subst e
    have hcV := hP.cell
    have HP := Lib.hid hP
    clear hP
    go_wp2_with (fail)
    go_ret
    have h9 := hl.out
    rw [List.take_length] at h9
    subst h9
    exact ⟨A', c', by rw [HP.out.len]; rfl, by rw [HP.out.len]; exact HP.out.own, HP.out.pv.below⟩
def blocks (n : Nat) : Nat := (n + 2047) / 2048
theorem blocksOf_any (n : Nat) (w : World) (hn : n <= 1000000000000) : Calls Tryz.prog 32 #[.int .i64 n] w fun e w' => e = .returned (.int .u32 (blocks n)) /\ w' = w := by
 have hb : blocks n <= 1000000000 := by unfold blocks; omega
 have e : (blocks n : Int) = ((n : Int) + 2047) / 2048 := by unfold blocks; omega
 have E := Lib.hid e; have HB := Lib.hid hb
 clear e hb
 go_enter Tryz.func32, Tryz.ntmps32
 go_wp2_with (fail)
 go_ret
 rw [E.out]
 refine ⟨?_, rfl⟩
 have := HB.out
 have := E.out
 simp
 omega
def zeros (n : Nat) : List UInt8 := List.replicate n 0
theorem zeros_length (n : Nat) : (zeros n).length = n := List.length_replicate
def addRec (out b : List UInt8) : List UInt8 := (if 2048 < out.length % 2048 + b.length then out ++ zeros (2048 - out.length % 2048) else out) ++ b
def padSec (out : List UInt8) : List UInt8 := if 0 < out.length % 2048 then out ++ zeros (2048 - out.length % 2048) else out
def kidRec (n : Node) : List UInt8 := isoRec n.id.data.toList n.extent n.size n.f.time n.f.dir n.su
def dirRecs (ns : List Node) (i : Nat) : List (List UInt8) :=
 isoRec [0] (nodeAt ns i).extent (nodeAt ns i).size (nodeAt ns i).f.time true [] ::
 isoRec [1] (nodeAt ns (parOf ns i)).extent (nodeAt ns (parOf ns i)).size (nodeAt ns (parOf ns i)).f.time true [] ::
 (kidsOf ns i).map (fun k => kidRec (nodeAt ns k))
def dirBytes (ns : List Node) (i : Nat) : List UInt8 := padSec ((dirRecs ns i).foldl addRec [])
def evn (n : Nat) : Nat := if n % 2 = 1 then n + 1 else n
theorem padEven_length (l : List UInt8) : (padEven l).length = evn l.length := by
 unfold padEven evn; split <;> simp
def recLen (i s : Nat) : Nat := evn (evn (33 + i) + s)
theorem isoRec_length (id : List UInt8) (e s : Nat) (t : Int) (d : Bool) (su : List UInt8) : (isoRec id e s t d su).length = recLen id.length su.length := by
 simp only [isoRec, List.length_set, padEven_length, List.length_append, length_recHead, recLen]
def addLen (o b : Nat) : Nat := (if 2048 < o % 2048 + b then o + (2048 - o % 2048) else o) + b
theorem addRec_length (out b : List UInt8) : (addRec out b).length = addLen out.length b.length := by
 unfold addRec addLen; split <;> simp [zeros_length] <;> try omega
def secUp (n : Nat) : Nat := if 0 < n % 2048 then n + (2048 - n % 2048) else n
theorem padSec_length (out : List UInt8) : (padSec out).length = secUp out.length := by
 unfold padSec secUp; split <;> simp [zeros_length]
theorem recs_length (rs : List (List UInt8)) (out : List UInt8) : (rs.foldl addRec out).length = (rs.map (·.length)).foldl addLen out.length := by
 induction rs generalizing out with
 | nil => rfl
 | cons r rs ih => simp only [List.foldl_cons, List.map_cons]; rw [ih, addRec_length]
theorem dirBytes_length (ns : List Node) (i : Nat) : (dirBytes ns i).length = secUp ((34 :: 34 :: (kidsOf ns i).map (fun k => recLen (nodeAt ns k).id.data.toList.length (nodeAt ns k).su.length)).foldl addLen 0) := by
 unfold dirBytes dirRecs
 rw [padSec_length, recs_length]
 congr 2
 simp only [List.map_cons, isoRec_length, List.map_map]
 have e : ((fun x : List UInt8 => x.length) ∘ fun k => kidRec (nodeAt ns k)) = (fun k => recLen (nodeAt ns k).id.data.toList.length (nodeAt ns k).su.length) := by
  funext k; exact isoRec_length _ _ _ _ _ _
 rw [e]
 rfl
structure Like (ns ms : List Node) : Prop where
 len : ms.length = ns.length
 node : ∀ j, ∃ e s, nodeAt ms j = { nodeAt ns j with extent := e, size := s }
theorem Like.refl (ns : List Node) : Like ns ns := ⟨rfl, fun j => ⟨(nodeAt ns j).extent, (nodeAt ns j).size, rfl⟩⟩
theorem Like.trans {ns ms ks : List Node} (h : Like ns ms) (h' : Like ms ks) : Like ns ks := by
 refine ⟨h'.len.trans h.len, fun j => ?_⟩
 obtain ⟨e, s, he⟩ := h.node j
 obtain ⟨e', s', he'⟩ := h'.node j
 exact ⟨e', s', by rw [he', he]⟩
theorem Like.kids {ns ms : List Node} (h : Like ns ms) (j : Nat) : kidsOf ms j = kidsOf ns j := by
 obtain ⟨e, s, he⟩ := h.node j; unfold kidsOf; rw [show ms.getD j rootNode = nodeAt ms j from rfl, he]
theorem Like.par {ns ms : List Node} (h : Like ns ms) (j : Nat) : parOf ms j = parOf ns j := by
 obtain ⟨e, s, he⟩ := h.node j; unfold parOf; rw [show ms.getD j rootNode = nodeAt ms j from rfl, he]
theorem Like.dir {ns ms : List Node} (h : Like ns ms) (j : Nat) : dirOf ms j = dirOf ns j := by
 obtain ⟨e, s, he⟩ := h.node j; unfold dirOf; rw [show ms.getD j rootNode = nodeAt ms j from rfl, he]
theorem Like.f {ns ms : List Node} (h : Like ns ms) (j : Nat) : (nodeAt ms j).f = (nodeAt ns j).f := by
 obtain ⟨e, s, he⟩ := h.node j; rw [he]
theorem Like.id {ns ms : List Node} (h : Like ns ms) (j : Nat) : (nodeAt ms j).id = (nodeAt ns j).id := by
 obtain ⟨e, s, he⟩ := h.node j; rw [he]
theorem Like.su {ns ms : List Node} (h : Like ns ms) (j : Nat) : (nodeAt ms j).su = (nodeAt ns j).su := by
 obtain ⟨e, s, he⟩ := h.node j; rw [he]
def setExt (ns : List Node) (i e s : Nat) : List Node := ns.set i { nodeAt ns i with extent := e, size := s }
theorem nodeAt_setExt (ns : List Node) (i e s j : Nat) : nodeAt (setExt ns i e s) j = if i = j /\ i < ns.length then { nodeAt ns i with extent := e, size := s } else nodeAt ns j := by
 simp only [setExt, nodeAt, List.getD_eq_getElem?_getD, List.getElem?_set]
 by_cases h : i = j
 . subst h
   by_cases h2 : i < ns.length
   . simp [h2]
   . simp [h2, List.getElem?_eq_none (Nat.le_of_not_lt h2)]
 . simp [h]
theorem Like.setExt (ns : List Node) (i e s : Nat) : Like ns (setExt ns i e s) := by
 refine ⟨by simp [YtilgpaeeleknhaaGreatDoor.setExt], fun j => ?_⟩
 rw [nodeAt_setExt]
 split
 . next h => obtain ⟨rfl, _⟩ := h; exact ⟨e, s, rfl⟩
 . exact ⟨(nodeAt ns j).extent, (nodeAt ns j).size, rfl⟩
def clen (ns : List Node) (i : Nat) : Nat := if dirOf ns i then (dirBytes ns i).length else (nodeAt ns i).f.data.size
theorem Like.clen {ns ms : List Node} (h : Like ns ms) (i : Nat) : clen ms i = clen ns i := by
 unfold YtilgpaeeleknhaaGreatDoor.clen
 rw [h.dir, h.f, dirBytes_length, dirBytes_length, h.kids]
 have : (fun k => recLen (nodeAt ms k).id.data.toList.length (nodeAt ms k).su.length) = (fun k => recLen (nodeAt ns k).id.data.toList.length (nodeAt ns k).su.length) := by
  funext k; rw [h.id, h.su]
 rw [this]
def ext : List Node -> Nat -> List Nat -> List Node × Nat
 | ns, nx, [] => (ns, nx)
 | ns, nx, i :: l => ext (setExt ns i nx (clen ns i)) (nx + blocks (clen ns i)) l
theorem ext_like (ns : List Node) (nx : Nat) (l : List Nat) : Like ns (ext ns nx l).1 := by
 induction l generalizing ns nx with
 | nil => exact Like.refl _
 | cons i l ih => exact (Like.setExt ns i nx _).trans (ih _ _)
theorem ext_le (ns : List Node) (nx : Nat) (l : List Nat) : nx <= (ext ns nx l).2 := by
 induction l generalizing ns nx with
 | nil => exact Nat.le_refl _
 | cons i l ih => exact Nat.le_trans (Nat.le_add_right _ _) (ih _ _)
theorem ext_other (ns : List Node) (nx : Nat) (l : List Nat) (j : Nat) (hj : j ∉ l) : nodeAt (ext ns nx l).1 j = nodeAt ns j := by
 induction l generalizing ns nx with
 | nil => rfl
 | cons i l ih =>
   simp only [List.mem_cons, not_or] at hj
   simp only [ext]
   rw [ih _ _ hj.2, nodeAt_setExt, if_neg (fun h => hj.1 h.1.symm)]
theorem ext_at (ns : List Node) (nx : Nat) (l : List Nat) (hn : l.Nodup) (hl : ∀ i ∈ l, i < ns.length) (i : Nat) (hi : i ∈ l) :
 nx <= (nodeAt (ext ns nx l).1 i).extent /\ (nodeAt (ext ns nx l).1 i).size = clen ns i /\ (nodeAt (ext ns nx l).1 i).extent + blocks (clen ns i) <= (ext ns nx l).2 := by
 induction l generalizing ns nx with
 | nil => cases hi
 | cons k l ih =>
   rw [List.nodup_cons] at hn
   simp only [ext]
   by_cases hik : i = k
   . subst hik
     rw [ext_other _ _ _ _ hn.1, nodeAt_setExt, if_pos ⟨rfl, hl i (by simp)⟩]
     exact ⟨Nat.le_refl _, rfl, ext_le _ _ _⟩
   . have hil : i ∈ l := by simpa [hik] using hi
     have := ih (setExt ns k nx (clen ns k)) (nx + blocks (clen ns k)) hn.2 (fun j hj => by rw [(Like.setExt ns k nx _).len]; exact hl j (List.mem_cons_of_mem _ hj)) hil
     rw [(Like.setExt ns k nx (clen ns k)).clen i] at this
     exact ⟨Nat.le_trans (Nat.le_add_right _ _) this.1, this.2⟩
theorem ext_apart (ns : List Node) (nx : Nat) (l : List Nat) (hn : l.Nodup) (hl : ∀ i ∈ l, i < ns.length) (i j : Nat) (hi : i ∈ l) (hj : j ∈ l) (hij : i ≠ j) :
 (nodeAt (ext ns nx l).1 i).extent + blocks (clen ns i) <= (nodeAt (ext ns nx l).1 j).extent \/ (nodeAt (ext ns nx l).1 j).extent + blocks (clen ns j) <= (nodeAt (ext ns nx l).1 i).extent := by
 induction l generalizing ns nx with
 | nil => cases hi
 | cons k l ih =>
   rw [List.nodup_cons] at hn
   simp only [ext]
   have hl' : ∀ j ∈ l, j < (setExt ns k nx (clen ns k)).length := fun j hj => by rw [(Like.setExt ns k nx _).len]; exact hl j (List.mem_cons_of_mem _ hj)
   by_cases hik : i = k
   . subst hik
     have hjl : j ∈ l := by
      rcases List.mem_cons.1 hj with h | h
      . exact absurd h.symm hij
      . exact h
     have := ext_at (setExt ns i nx (clen ns i)) (nx + blocks (clen ns i)) l hn.2 hl' j hjl
     rw [ext_other _ _ _ _ hn.1, nodeAt_setExt, if_pos ⟨rfl, hl i (by simp)⟩]
     exact .inl this.1
   . have hil : i ∈ l := by simpa [hik] using hi
     by_cases hjk : j = k
     . subst hjk
       have := ext_at (setExt ns j nx (clen ns j)) (nx + blocks (clen ns j)) l hn.2 hl' i hil
       rw [ext_other _ _ _ j hn.1, nodeAt_setExt, if_pos ⟨rfl, hl j (by simp)⟩]
       exact .inr this.1
     . have hjl : j ∈ l := by simpa [hjk] using hj
       have := ih (setExt ns k nx (clen ns k)) (nx + blocks (clen ns k)) hn.2 hl' hil hjl
       rw [(Like.setExt ns k nx (clen ns k)).clen i, (Like.setExt ns k nx (clen ns k)).clen j] at this
       exact this
def content (ns : List Node) (i : Nat) : List UInt8 := if dirOf ns i then dirBytes ns i else (nodeAt ns i).f.data.data.toList
theorem content_length (ns : List Node) (i : Nat) : (content ns i).length = clen ns i := by
 unfold content clen; split <;> simp
def layAll (out : List UInt8) (l : List (Nat × List UInt8)) : List UInt8 := l.foldl (fun o x => splice o (x.1 * 2048) x.2) out
def Holds (img : List UInt8) (off : Nat) (c : List UInt8) : Prop := ∀ j, j < c.length -> img[off + j]? = c[j]?
theorem splice_get (out : List UInt8) (off : Nat) (m : List UInt8) (h : off + m.length <= out.length) (p : Nat) : (splice out off m)[p]? = if p < off then out[p]? else if p < off + m.length then m[p - off]? else out[p]? := by
 have m1 : min off out.length = off := by omega
 rw [splice, List.getElem?_append, List.getElem?_append]
 simp only [List.length_take, m1, List.getElem?_take, List.getElem?_drop]
 by_cases h1 : p < off
 . simp [h1]
 . by_cases h2 : p < off + m.length
   . rw [if_neg h1, if_neg h1, if_pos h2, if_pos (by omega)]
   . rw [if_neg h1, if_neg h1, if_neg h2, if_neg (by omega)]
     congr 1; omega
theorem Holds.here (out : List UInt8) (off : Nat) (m : List UInt8) (h : off + m.length <= out.length) : Holds (splice out off m) off m := by
 intro j hj
 rw [splice_get out off m h, if_neg (by omega), if_pos (by omega)]
 congr 1; omega
theorem Holds.other {out : List UInt8} {a : Nat} {c : List UInt8} (hc : Holds out a c) (off : Nat) (m : List UInt8) (h : off + m.length <= out.length) (hd : off + m.length <= a \/ a + c.length <= off) : Holds (splice out off m) a c := by
 intro j hj
 rw [splice_get out off m h]
 rw [<- hc j hj]
 by_cases h1 : a + j < off
 . rw [if_pos h1]
 . rw [if_neg h1, if_neg (by omega)]
theorem layAll_length (l : List (Nat × List UInt8)) (out : List UInt8) (h : ∀ x ∈ l, x.1 * 2048 + x.2.length <= out.length) : (layAll out l).length = out.length := by
 induction l generalizing out with
 | nil => rfl
 | cons x l ih =>
   have e := length_splice out (x.1 * 2048) x.2 (h x (by simp))
   simp only [layAll, List.foldl_cons]
   exact (ih _ (fun y hy => by rw [e]; exact h y (by simp [hy]))).trans e
theorem layAll_keep (l : List (Nat × List UInt8)) (out : List UInt8) (h : ∀ x ∈ l, x.1 * 2048 + x.2.length <= out.length) (a : Nat) (c : List UInt8) (hc : Holds out a c)
 (hd : ∀ x ∈ l, x.1 * 2048 + x.2.length <= a \/ a + c.length <= x.1 * 2048) : Holds (layAll out l) a c := by
 induction l generalizing out with
 | nil => exact hc
 | cons x l ih =>
   have e := length_splice out (x.1 * 2048) x.2 (h x (by simp))
   simp only [layAll, List.foldl_cons]
   exact ih _ (fun y hy => by rw [e]; exact h y (by simp [hy])) (hc.other _ _ (h x (by simp)) (hd x (by simp))) (fun y hy => hd y (by simp [hy]))
theorem layAll_holds (l : List (Nat × List UInt8)) (out : List UInt8) (h : ∀ x ∈ l, x.1 * 2048 + x.2.length <= out.length)
 (hp : l.Pairwise (fun x y => y.1 * 2048 + y.2.length <= x.1 * 2048 \/ x.1 * 2048 + x.2.length <= y.1 * 2048)) (x : Nat × List UInt8) (hx : x ∈ l) : Holds (layAll out l) (x.1 * 2048) x.2 := by
 induction l generalizing out with
 | nil => cases hx
 | cons y l ih =>
   have e := length_splice out (y.1 * 2048) y.2 (h y (by simp))
   have h' : ∀ z ∈ l, z.1 * 2048 + z.2.length <= (splice out (y.1 * 2048) y.2).length := fun z hz => by rw [e]; exact h z (by simp [hz])
   rw [List.pairwise_cons] at hp
   simp only [layAll, List.foldl_cons]
   rcases List.mem_cons.1 hx with rfl | hx
   . exact layAll_keep l _ h' _ _ (Holds.here _ _ _ (h x (by simp))) (fun z hz => hp.1 z hz)
   . exact ih _ h' hp.2 hx
theorem blocks_le (n : Nat) : n <= blocks n * 2048 := by unfold blocks; omega
def laysOf (ms : List Node) (pvd term pl pb : List UInt8) : List (Nat × List UInt8) :=
 (16, pvd) :: (17, term) :: (18, pl) :: (18 + blocks pl.length, pb) :: (List.range ms.length).map (fun i => ((nodeAt ms i).extent, content ms i))
def imageOf (ms : List Node) (next : Nat) (pvd term pl pb : List UInt8) : List UInt8 := layAll (zeros (next * 2048)) (laysOf ms pvd term pl pb)
structure ImageHas (img : List UInt8) (ms : List Node) (next : Nat) (pvd term pl pb : List UInt8) : Prop where
 len : img.length = next * 2048
 pvd : Holds img (16 * 2048) pvd
 term : Holds img (17 * 2048) term
 pl : Holds img (18 * 2048) pl
 node : ∀ i, i < ms.length -> Holds img ((nodeAt ms i).extent * 2048) (content ms i)
theorem image_has (ns : List Node) (o : List Nat) (pvd term pl pb : List UInt8) (ho : o.Nodup) (hm : ∀ i, i ∈ o ↔ i < ns.length) (hpvd : pvd.length = 2048) (hterm : term.length <= 2048) (hlen : pb.length = pl.length) (ms : List Node) (next : Nat)
 (he : ext ns (18 + blocks pl.length + blocks pl.length) o = (ms, next)) : ImageHas (imageOf ms next pvd term pl pb) ms next pvd term pl pb /\ 18 + blocks pl.length + blocks pl.length <= next := by
 have hml : ms.length = ns.length := by have := (ext_like ns (18 + blocks pl.length + blocks pl.length) o).len; rw [he] at this; exact this
 have hcl : ∀ i, (content ms i).length = clen ns i := by
  intro i; rw [content_length]
  have := (ext_like ns (18 + blocks pl.length + blocks pl.length) o).clen i; rw [he] at this; exact this
 have hat : ∀ i, i < ns.length -> 18 + blocks pl.length + blocks pl.length <= (nodeAt ms i).extent /\ (nodeAt ms i).extent + blocks (clen ns i) <= next := by
  intro i hi
  have := ext_at ns (18 + blocks pl.length + blocks pl.length) o ho (fun i hi => (hm i).1 hi) i ((hm i).2 hi)
  rw [he] at this
  exact ⟨this.1, this.2.2⟩
 have hap : ∀ i j, i < ns.length -> j < ns.length -> i ≠ j -> (nodeAt ms i).extent + blocks (clen ns i) <= (nodeAt ms j).extent \/ (nodeAt ms j).extent + blocks (clen ns j) <= (nodeAt ms i).extent := by
  intro i j hi hj hij
  have := ext_apart ns (18 + blocks pl.length + blocks pl.length) o ho (fun i hi => (hm i).1 hi) i j ((hm i).2 hi) ((hm j).2 hj) hij
  rw [he] at this; exact this
 have hnx : 18 + blocks pl.length + blocks pl.length <= next := by have := ext_le ns (18 + blocks pl.length + blocks pl.length) o; rw [he] at this; exact this
 have hbl := blocks_le pl.length
 have hfit : ∀ x ∈ laysOf ms pvd term pl pb, x.1 * 2048 + x.2.length <= (zeros (next * 2048)).length := by
  intro x hx
  rw [zeros_length]
  simp only [laysOf, List.mem_cons, List.mem_map, List.mem_range] at hx
  rcases hx with rfl | rfl | rfl | rfl | ⟨i, hi, rfl⟩
  . simp only; omega
  . simp only; omega
  . simp only; omega
  . simp only; omega
  . simp only; rw [hcl]; have := hat i (by omega); have := blocks_le (clen ns i); omega
 have hpw : (laysOf ms pvd term pl pb).Pairwise (fun x y => y.1 * 2048 + y.2.length <= x.1 * 2048 \/ x.1 * 2048 + x.2.length <= y.1 * 2048) := by
  unfold laysOf
  simp only [List.pairwise_cons, List.mem_cons, List.mem_map, List.mem_range]
  refine ⟨?_, ?_, ?_, ?_, ?_⟩
  . rintro x (rfl | rfl | rfl | ⟨i, hi, rfl⟩) <;> simp only
    . omega
    . omega
    . omega
    . have := hat i (by omega); omega
  . rintro x (rfl | rfl | ⟨i, hi, rfl⟩) <;> simp only
    . omega
    . omega
    . have := hat i (by omega); omega
  . rintro x (rfl | ⟨i, hi, rfl⟩) <;> simp only
    . omega
    . have := hat i (by omega); omega
  . rintro x ⟨i, hi, rfl⟩
    simp only
    have := hat i (by omega); omega
  . rw [List.pairwise_map]
    refine List.Pairwise.imp_of_mem ?_ (List.nodup_range)
    intro i j hi hj hij
    rw [List.mem_range] at hi hj
    simp only
    rw [hcl, hcl]
    have h1 := hap i j (by omega) (by omega) hij
    have h2 := blocks_le (clen ns i)
    have h3 := blocks_le (clen ns j)
    omega
 have hh := layAll_holds (laysOf ms pvd term pl pb) (zeros (next * 2048)) hfit hpw
 refine ⟨⟨?_, ?_, ?_, ?_, ?_⟩, hnx⟩
 . exact (layAll_length _ _ hfit).trans (zeros_length _)
 . exact hh (16, pvd) (by simp [laysOf])
 . exact hh (17, term) (by simp [laysOf])
 . exact hh (18, pl) (by simp [laysOf])
 . intro i hi
   exact hh ((nodeAt ms i).extent, content ms i) (by simp only [laysOf, List.mem_cons, List.mem_map, List.mem_range]; exact .inr (.inr (.inr (.inr ⟨i, hi, rfl⟩))))
end Go.Proofs.YtilgpaeeleknhaaGreatDoor
