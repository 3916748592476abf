/-
  DERIVED. A part of the proof of laws.FnIsoPaths (for every input the law returns true and each argument reads as before; the listed variables read as listed when the call begins). It holds:
  · Walks: a directory's records (isoRecords' closures).
  · Rows of one-cell values (pointers, interfaces): an append; blocks that are kept.
-/
import Derived.Test.YtilgpaeeleknhaaGreatDoorIq18
import Derived.Test.YtilgpaeeleknhaaGreatDoorIq08
section
namespace Go.Proofs.YtilgpaeeleknhaaGreatDoor
open Go Go.RowKit
set_option linter.unusedSimpArgs false
set_option linter.unusedVariables false

/-- The variable V, below block R, holds a row of bytes of the call's own from block R on. -/
structure OR (w : World) (R V : Nat) (A : Option Addr) (c : Nat) (l : List UInt8) (n : Nat) : Prop where
  heap : w.heap[V]? = some (.cells #[.slice A n c] 27)
  own : Own w R (.slice A n c) l
  len : l.length = n
  lt : V < R
  le : R ≤ w.heap.size
/-- All below block R is as it was, but for the variable V. -/
structure KeptX (R V : Nat) (w w' : World) : Prop where
  os : w'.os = w.os
  tape : w'.tape = w.tape
  output : w'.output = w.output
  size : w.heap.size ≤ w'.heap.size
  block : ∀ k, k < R → k ≠ V → w'.heap[k]? = w.heap[k]?
theorem KeptX.refl (R V : Nat) (w : World) : KeptX R V w w := ⟨rfl, rfl, rfl, Nat.le_refl _, fun _ _ _ => rfl⟩
theorem KeptX.trans {R V : Nat} {a b c : World} (h : KeptX R V a b) (k : KeptX R V b c) : KeptX R V a c :=
  ⟨k.os.trans h.os, k.tape.trans h.tape, k.output.trans h.output, Nat.le_trans h.size k.size, fun j h1 h2 => (k.block j h1 h2).trans (h.block j h1 h2)⟩
theorem KeptX.of {R V : Nat} {w w' : World} (h : Below R w w') : KeptX R V w w' := ⟨h.os, h.tape, h.output, h.size, fun k hk _ => h.block k hk⟩
theorem KeptX.setCell {R V : Nat} {w w' : World} (h : KeptX R V w w') (u : Value) : KeptX R V w (w'.setCell ⟨V, 0, none⟩ u) :=
  h.trans ⟨rfl, rfl, rfl, by simp, fun k _ hk => by rw [heap_setCell_other w' ⟨V, 0, none⟩ k _ hk]⟩
theorem KeptX.below {R V B : Nat} {w w' : World} (h : KeptX R V w w') (h1 : B ≤ V) (h2 : B ≤ R) : Below B w w' := ⟨h.os, h.tape, h.output, h.size, fun k hk => h.block k (by omega) (by omega)⟩
theorem OR.cell {w : World} {R V c n : Nat} {A : Option Addr} {l : List UInt8} (h : OR w R V A c l n) : w.cell? ⟨V, 0, none⟩ = some (.slice A n c) := by simp [World.cell?, h.heap]
theorem OR.frozen {w : World} {R V c n : Nat} {A : Option Addr} {l : List UInt8} (h : OR w R V A c l n) : w.frozen? ⟨V, 0, none⟩ = false := by simp [World.frozen?, h.heap]
theorem OR.later {w w' : World} {R V c n : Nat} {A : Option Addr} {l : List UInt8} (h : OR w R V A c l n) (hb : Below w.heap.size w w') : OR w' R V A c l n :=
  ⟨by rw [hb.block V (Nat.lt_of_lt_of_le h.lt h.le)]; exact h.heap, h.own.later hb, h.len, h.lt, Nat.le_trans h.le hb.size⟩
theorem OR.app {w w' : World} {R V c c' n n' : Nat} {A A' : Option Addr} {l l' : List UInt8} (h : OR w R V A c l n) (hO : Own w' R (.slice A' n' c') l') (hl : l'.length = n') (hg : w.grownBy w' (Value.slice A n c).ownBlock) :
    OR (w'.setCell ⟨V, 0, none⟩ (.slice A' n' c')) R V A' c' l' n' ∧ w'.cell? ⟨V, 0, none⟩ = some (.slice A n c) ∧ w'.frozen? ⟨V, 0, none⟩ = false := by
  have hV : w'.heap[V]? = some (.cells #[.slice A n c] 27) := by
    rw [hg.block V (Nat.lt_of_lt_of_le h.lt h.le) (fun e => by have := (World.ownsRow.lt h.own V e.symm).1; have := h.lt; omega)]; exact h.heap
  refine ⟨⟨?_, ?_, hl, h.lt, Nat.le_trans h.le (by simpa using hg.size)⟩, by simp [World.cell?, hV], by simp [World.frozen?, hV]⟩
  · have := heap_setCell_same w' V 0 #[.slice A n c] 27 (.slice A' n' c') hV
    simpa using this
  · refine ⟨hO.1, hO.2.imp id fun ⟨g, cap, cur, hv, h1, h2, h3⟩ => ⟨g, cap, cur, hv, h1, ?_, h3⟩⟩
    rw [heap_setCell_other w' ⟨V, 0, none⟩ g _ (by intro e; have e' : g = V := e; have := h.lt; omega)]
    exact h2
theorem Own.push {w w' : World} {V M n c : Nat} {A : Option Addr} {y u : Value} {m : List UInt8} (hy : Own w M y m) (hA : ∀ k, (Value.slice A n c).ownBlock = some k → k < M) (hV : V < M) (hg : w.grownBy w' (Value.slice A n c).ownBlock) : Own (w'.setCell ⟨V, 0, none⟩ u) M y m := by
  refine ⟨hy.1, hy.2.imp id fun ⟨g, cap, cur, hv, h1, h2, h3⟩ => ⟨g, cap, cur, hv, h1, ?_, h3⟩⟩
  rw [heap_setCell_other w' ⟨V, 0, none⟩ g _ (by intro e; have e' : g = V := e; omega)]
  rw [hg.block g (Array.getElem?_eq_some_iff.1 h2).1 (fun e => by have := hA g e.symm; omega)]
  exact h2
/-- append(v, y...). -/
theorem go_appR {o : Oper} {a : Act} {w : World} {K : Act → World → Prop} {Q : Exit → Act → World → Prop} (s x : Operand) (ho : o.op = .call { callee := .builtin .append, args := #[s, x], argTypes := #[27, 27] })
    (B B' n q c : Nat) (A : Option Addr) (y : Value) (l m : List UInt8) (hn : n = l.length) (hs : a.eval s = .slice A n c) (hown : Own w B (.slice A n c) l) (hq : q = m.length)
    (hx : a.eval x = y) (hrd : Rd w B' y m) (hlen : n + q ≤ 1000000000) (hB : B ≤ w.heap.size)
    (h : ∀ A' c' w', Own w' B (.slice A' (n + q) c') (l ++ m) → Below B w w' → w.grownBy w' (Value.slice A n c).ownBlock → K (a.put o.dst (.slice A' (n + q) c')) w') :
    Oper.wp Tryz.prog o a w K Q := by
  subst hn; subst hq
  refine wp_appB_of Tryz.underlying27 info5 s x ho B B' _ y l m hs hown hx hrd hlen hB ?_
  intro A' c' w' L hL h1 h2 hO hg hb
  have e := hL.out
  subst e
  rw [List.length_append] at hO
  rw [List.length_append]
  exact h A' c' w' hO hb hg
def padN (n q : Nat) : Nat := if 2048 < n % 2048 + q then n + (2048 - n % 2048) else n
theorem addRec_pad {l m : List UInt8} {n q : Nat} (hn : l.length = n) (hq : m.length = q) (h : 2048 < n % 2048 + q) : addRec l m = l ++ List.replicate (2048 - n % 2048) 0 ++ m := by
  subst hn; subst hq; unfold addRec; rw [if_pos h]; rfl
theorem addRec_fit {l m : List UInt8} {n q : Nat} (hn : l.length = n) (hq : m.length = q) (h : ¬ 2048 < n % 2048 + q) : addRec l m = l ++ m := by
  subst hn; subst hq; unfold addRec; rw [if_neg h]

set_option maxRecDepth 100000 in
set_option maxHeartbeats 2000000 in
theorem add_any (V R M n q c cy : Nat) (A Ay : Option Addr) (l m : List UInt8) (w : World) (hV : OR w R V A c l n) (hq : m.length = q) (hy : Own w M (.slice Ay q cy) m) (hA : ∀ k, (Value.slice A n c).ownBlock = some k → k < M) (hVM : V < M) (hq1 : q ≤ 2048) (hn1 : n ≤ 900000000) :
    Calls Tryz.prog 53 #[.slice Ay q cy, .pointer (some ⟨V, 0, none⟩)] w fun e w' => ∃ A' c' n', e = .returned (.tuple #[]) ∧ OR w' R V A' c' (addRec l m) n' ∧ n' ≤ n + 4096 ∧ KeptX R V w w' := by
  have hcV := hV.cell
  have hB := hV.le
  have HV := Lib.hid hV; have HQ := Lib.hid hq; have HY := Lib.hid hy; have HA := Lib.hid hA
  clear hV hq hy hA
  go_enter Tryz.func53, Tryz.ntmps53
  by_cases hp : 2048 < n % 2048 + q
  · go_wp2_with (first
      | (at_builtin; refine asList rfl fun KK hKK => ?_; refine go_appR (.tmp 16) (.tmp 17) rfl R (w1.setCell ⟨V, 0, none⟩ (.slice A1 (n + (2048 - n % 2048)) c1)).heap.size (n + (2048 - n % 2048)) q c1 A1 _ (l ++ List.replicate (2048 - n % 2048) 0) m HV1.out.len.symm rfl HV1.out.own HQ.out.symm rfl HY1.out.rd (by omega) HV1.out.le ?_; intro A2 c2 w2 hO2 hb2 hg2; refine hKK _ _ ?_; clear hKK KK; obtain ⟨hV2, hcV2, hfV2⟩ := HV1.out.app hO2 (by rw [List.length_append, HV1.out.len, HQ.out]) hg2; have HV2 := Lib.hid hV2; clear hV2)
      | (at_builtin; refine asList rfl fun KK hKK => ?_; refine go_appZ (.tmp 10) (.tmp 14) rfl R n c (2048 - n % 2048) A l HV.out.len.symm rfl HV.out.own _ rfl (by omega) (by omega) (by omega) hB ?_; intro A1 c1 w1 hO1 hb1 hg1; refine hKK _ _ ?_; clear hKK KK; obtain ⟨hV1, hcV1, hfV1⟩ := HV.out.app hO1 (by rw [List.length_append, HV.out.len, List.length_replicate]) hg1; have hcV1' := hV1.cell; have HV1 := Lib.hid hV1; have HY1 := Lib.hid (HY.out.push (u := .slice A1 (n + (2048 - n % 2048)) c1) HA.out hVM hg1); clear hV1))
    refine bodyPost_end (v := .tuple #[]) (by simp [results, Tryz.f53]) rfl ⟨A2, c2, _, rfl, by rw [addRec_pad HV.out.len HQ.out hp]; exact HV2.out, by omega, ?_⟩
    exact ((((KeptX.of hb1).setCell _).trans (KeptX.of hb2)).setCell _)
  · go_wp2_with (first
      | (at_builtin; refine asList rfl fun KK hKK => ?_; refine go_appR (.tmp 16) (.tmp 17) rfl R w.heap.size n q c A _ l m HV.out.len.symm rfl HV.out.own HQ.out.symm rfl HY.out.rd (by omega) hB ?_; intro A2 c2 w2 hO2 hb2 hg2; refine hKK _ _ ?_; clear hKK KK; obtain ⟨hV2, hcV2, hfV2⟩ := HV.out.app hO2 (by rw [List.length_append, HV.out.len, HQ.out]) hg2; have HV2 := Lib.hid hV2; clear hV2))
    refine bodyPost_end (v := .tuple #[]) (by simp [results, Tryz.f53]) rfl ⟨A2, c2, _, rfl, by rw [addRec_fit HV.out.len HQ.out hp]; exact HV2.out, by omega, ?_⟩
    exact (KeptX.of hb2).setCell _
end Go.Proofs.YtilgpaeeleknhaaGreatDoor
end

section
namespace Go.Proofs.YtilgpaeeleknhaaGreatDoor
open Go Go.RowKit
set_option linter.unusedSimpArgs false
set_option linter.unusedVariables false

/-- append(l, u), u in a literal just laid. -/
theorem go_appV {o : Oper} {a : Act} {w wa : World} {K : Act → World → Prop} {Q : Exit → Act → World → Prop} {t e bz : Nat} (ht : Tryz.prog.underlying t = some (.slice e)) (hinfo : (Tryz.prog.info? e).map (fun i => (i.zero.map (·.cells.size), i.size, i.bytes)) = some (some 1, 1, bz)) (hbz : bz ≤ 16)
    (s x : Operand) (ho : o.op = .call { callee := .builtin .append, args := #[s, x], argTypes := #[t, t] })
    (B N n : Nat) (A : Option Addr) (co : Nat) (us : List Value) (u : Value) (hn : n = us.length) (hs : a.eval s = .slice A n co) (hO : w.ownsRow B e 1 (.slice A n co) n us)
    (hwa : Below w.heap.size w wa) (hwc : wa.heap[w.heap.size]? = some (.cells #[u] e)) (hsz : w.heap.size = N) (hx : a.eval x = .slice (some ⟨N, 0, none⟩) 1 1) (h1 : u.oneCell' = true) (hlen : n ≤ 4000000000) (hB : B ≤ w.heap.size)
    (h : ∀ A' c' w', w'.ownsRow B e 1 (.slice A' (n + 1) c') (n + 1) (us ++ [u]) → Below B w w' → w.grownBy w' (Value.slice A n co).ownBlock → K (a.put o.dst (.slice A' (n + 1) c')) w') :
    Oper.wp Tryz.prog o a wa K Q := by
  obtain ⟨i, hi, hz'⟩ : ∃ i, Tryz.prog.info? e = some i ∧ (i.zero.map (·.cells.size), i.size, i.bytes) = (some 1, 1, bz) := by
    cases hq : Tryz.prog.info? e with
    | none => rw [hq] at hinfo; simp at hinfo
    | some i => rw [hq] at hinfo; exact ⟨i, rfl, by simpa using hinfo⟩
  obtain ⟨z, hz, hzs⟩ : ∃ z, i.zero = some z ∧ z.cells.size = 1 := by
    cases hq : i.zero with
    | none => rw [hq] at hz'; simp at hz'
    | some z => rw [hq] at hz'; exact ⟨z, rfl, by simpa using (Prod.mk.inj hz').1⟩
  have hsi : i.size = 1 := (Prod.mk.inj (Prod.mk.inj hz').2).1
  have hby : i.bytes = bz := (Prod.mk.inj (Prod.mk.inj hz').2).2
  subst hsz
  have hO1 : wa.ownsRow B e 1 (.slice A n co) n us := ownsRow_later hO hwa
  have hB1 : B ≤ wa.heap.size := Nat.le_trans hB hwa.size
  refine wp_append_own (P := Tryz.prog) _ s x t ho B e i z 1 bz ht hi hz hsi hby hzs (by decide) _ _ _ hs hO1 ⟨w.heap.size, 0, none⟩ 1 1 [u] hx rfl ?_ ?_ (by unfold maxLen; omega) ?_ hB1 ?_
  · intro j v hv
    rw [Addr.add_mid, Nat.zero_add]
    simp only [World.cell?, hwc]
    simpa using hv
  · intro v hv
    rw [List.mem_singleton] at hv; subst hv; exact h1
  · have : (n + 1) * bz ≤ (n + 1) * 16 := Nat.mul_le_mul_left _ hbz
    omega
  · intro v' w' hrow hgr _
    obtain ⟨A', c', rfl, _, _⟩ := ownsRow_shape hrow
    refine h A' c' w' hrow ((hwa.mono hB).grown hgr hB1 (fun k hk => (World.ownsRow.lt hO1 k hk).1)) ?_
    exact ⟨hgr.os.trans hwa.os, hgr.tape.trans hwa.tape, hgr.output.trans hwa.output, Nat.le_trans hwa.size hgr.size, fun k hk hr => by
      rw [hgr.block k (Nat.lt_of_lt_of_le hk hwa.size) hr]; exact hwa.block k hk⟩
/-- Blocks bs of type T that hold es. -/
def Boxes (w : World) (T : TypeId) (bs : List Nat) (es : List (List Value)) : Prop := bs.length = es.length ∧ ∀ k (h : k < bs.length) (h' : k < es.length), w.heap[bs[k]]? = some (.cells es[k].toArray T)
theorem Boxes.nil (w : World) (T : TypeId) : Boxes w T [] [] := ⟨rfl, fun k h => by cases h⟩
theorem Boxes.lt {w : World} {T : TypeId} {bs : List Nat} {es : List (List Value)} (h : Boxes w T bs es) (b : Nat) (hb : b ∈ bs) : b < w.heap.size := by
  obtain ⟨k, hk, e⟩ := List.mem_iff_getElem.1 hb
  have := h.2 k hk (by rw [← h.1]; exact hk)
  rw [e] at this
  exact (Array.getElem?_eq_some_iff.1 this).1
theorem Boxes.later {w w' : World} {T : TypeId} {bs : List Nat} {es : List (List Value)} (h : Boxes w T bs es) (hb : Below w.heap.size w w') : Boxes w' T bs es :=
  ⟨h.1, fun k hk hk' => by rw [hb.block _ (h.lt _ (List.getElem_mem hk))]; exact h.2 k hk hk'⟩
theorem Boxes.keep {w w' : World} {T : TypeId} {bs : List Nat} {es : List (List Value)} {M : Nat} (h : Boxes w T bs es) (hb : Below M w w') (hM : ∀ b ∈ bs, b < M) : Boxes w' T bs es :=
  ⟨h.1, fun k hk hk' => by rw [hb.block _ (hM _ (List.getElem_mem hk))]; exact h.2 k hk hk'⟩
theorem Boxes.grown {w w' : World} {T e B n co : Nat} {A : Option Addr} {us : List Value} {bs : List Nat} {es : List (List Value)} (h : Boxes w T bs es) (hO : w.ownsRow B e 1 (.slice A n co) n us) (hne : T ≠ e) (hg : w.grownBy w' (Value.slice A n co).ownBlock) : Boxes w' T bs es := by
  refine ⟨h.1, fun k hk hk' => ?_⟩
  rw [hg.block _ (h.lt _ (List.getElem_mem hk)) ?_]
  · exact h.2 k hk hk'
  · intro e'
    rcases hO.2 with ⟨hv, _⟩ | ⟨g, cap, cur, hv, _, hg', _⟩
    · rw [hv] at e'; simp [Value.ownBlock] at e'
    · rw [hv] at e'
      simp only [Value.ownBlock, Option.some.injEq] at e'
      have := h.2 k hk hk'
      rw [e', hg'] at this
      simp at this
      exact hne this.2.symm
theorem Boxes.snoc {w : World} {T : TypeId} {bs : List Nat} {es : List (List Value)} {b : Nat} {x : List Value} (h : Boxes w T bs es) (hb : w.heap[b]? = some (.cells x.toArray T)) : Boxes w T (bs ++ [b]) (es ++ [x]) := by
  refine ⟨by simp [h.1], fun k hk hk' => ?_⟩
  rw [List.length_append, List.length_singleton] at hk hk'
  by_cases hlt : k < bs.length
  · rw [List.getElem_append_left hlt, List.getElem_append_left (by rw [← h.1]; exact hlt)]
    exact h.2 k hlt (by rw [← h.1]; exact hlt)
  · have e1 : k = bs.length := by omega
    subst e1
    have e2 : bs.length = es.length := h.1
    simp only [List.getElem_concat_length]
    have : (es ++ [x])[bs.length]'(by simp; omega) = x := by simp [e2]
    rw [this]; exact hb
/-- make([]T, 0, m), of one-cell elements. -/
theorem go_makeV {o : Oper} {a : Act} {w : World} {K : Act → World → Prop} {Q : Exit → Act → World → Prop} {t e bz : Nat} (ht : Tryz.prog.underlying t = some (.slice e)) (hinfo : (Tryz.prog.info? e).map (fun i => (i.zero.map (·.cells.size), i.size, i.bytes)) = some (some 1, 1, bz)) (hbz : bz ≤ 16)
    (l c : Operand) (ho : o.op = Op.makeSlice t l c) (B : Nat) (kl kc : IntKind) (m : Nat) (hl : a.eval l = .int kl 0) (hc : a.eval c = .int kc (m : Int)) (hm : m ≤ 1000000) (hB : B ≤ w.heap.size)
    (h : ∀ w', w'.ownsRow B e 1 (.slice (some ⟨w.heap.size, 0, none⟩) 0 m) 0 [] → Below B w w' → w'.heap.size = w.heap.size + 1 → K (a.put o.dst (.slice (some ⟨w.heap.size, 0, none⟩) 0 m)) w') :
    Oper.wp Tryz.prog o a w K Q := by
  obtain ⟨i, z, hi, hz, hzs, hsi, hby⟩ := infoz hinfo
  have hb16 : m * bz ≤ m * 16 := Nat.mul_le_mul_left _ hbz
  have hr := run_make (P := Tryz.prog) w t e i z ht hi hz kl kc ((0 : Nat) : Int) m (by omega) (by omega) (by rw [hby, Int.mul_comm]; omega) (by omega)
  simp only [Int.toNat_natCast, hsi, Nat.mul_one] at hr
  unfold Oper.wp
  have hl' : a.eval l = .int kl ((0 : Nat) : Int) := hl
  simp only [execOp, ho, hl', hc, hr, Sem.run_bind, Sem.run_pure, Result.andThen_ok]
  refine h _ ?_ ((Below.refl B w).alloc hB _) (by simp)
  exact ⟨by simp, .inr ⟨w.heap.size, m, _, rfl, hB, heap_alloc_new w _, by omega, by unfold maxLen; omega, by simp [size_madeCells, hzs], by simp⟩⟩
abbrev PB (b : Nat) : Value := .pointer (some ⟨b, 0, none⟩)
end Go.Proofs.YtilgpaeeleknhaaGreatDoor
end
