/- A part of the proof of laws.FnIsoRock (see the last text). -/
import Derived.Test.YtilgpaeeleknhaaGreatDoorJr16
import Derived.Test.YtilgpaeeleknhaaGreatDoorJr04
set_option linter.unusedSimpArgs false
set_option linter.unusedVariables false
set_option maxRecDepth 1000000
set_option maxHeartbeats 8000000
namespace Go.Proofs.YtilgpaeeleknhaaGreatDoor
open Go Go.RowKit
theorem rangeAt_block {w : World} {b : Nat} {cs : List Value} {t : TypeId} (h : w.heap[b]? = some (.cells cs.toArray t)) : w.rangeAt b 0 cs := by
 intro j v hj
 simp only [World.cell?, h]
 simpa using hj
theorem wpList_loadB {ops : Array Oper} {rest : List Oper} {o : Oper} {a : Act} {w : World} {Q : Exit -> Act -> World -> Prop} (hgd : o.guard = none) (ty : TypeId) (x : Operand) (ho : o.op = .load ty x)
 {b : Nat} (hx : a.eval x = .pointer (some ⟨b, 0, none⟩)) (cs : List Value) (t : TypeId) (h : w.heap[b]? = some (.cells cs.toArray t)) (hr : (Tryz.prog.underlying ty).map (·.isRow) = some true) (hi : (Tryz.prog.info? ty).map (·.size) = some cs.length)
 (hK : wpList Tryz.prog ops Q rest (a.put o.dst (.agg cs.toArray)) w) : wpList Tryz.prog ops Q (o :: rest) a w := by
 obtain ⟨d, hd, hr⟩ := isRow_of hr
 exact wpList_load_mid hgd ty x ho b 0 hx cs d (rangeAt_block h) hd hr hi hK
theorem wpList_storeB {ops : Array Oper} {rest : List Oper} {o : Oper} {a : Act} {w : World} {Q : Exit -> Act -> World -> Prop} (hgd : o.guard = none) (ty : TypeId) (x y : Operand) (ho : o.op = .store ty x y)
 {b : Nat} (hx : a.eval x = .pointer (some ⟨b, 0, none⟩)) (cs old : List Value) (t : TypeId) (hy : a.eval y = .agg cs.toArray) (h : w.heap[b]? = some (.cells old.toArray t)) (hi : (Tryz.prog.info? ty).map (·.size) = some cs.length) (hold : old.length = cs.length) (h1 : cs.all (·.oneCell') = true)
 (hK : ∀ w', w'.heap[b]? = some (.cells cs.toArray t) -> (∀ M, M <= b -> Below M w w') -> (∀ k, k ≠ b -> w'.heap[k]? = w.heap[k]?) -> w'.heap.size = w.heap.size -> wpList Tryz.prog ops Q rest (a.put o.dst undef) w') : wpList Tryz.prog ops Q (o :: rest) a w := by
 refine wpList_plain hgd fun K hKK => wp_store_row ty x y ho b cs.toArray hx hy t old.toArray h (by simpa using hi) (by simpa using hold) (by rw [<- Array.all_toList]; exact h1) ?_
 refine hKK _ _ (hK _ (setRow_heap w b old.toArray _ t _ h) (fun M hM => ?_) (fun k hk => setRow_other w b k _ hk) (size_setRow w b _))
 exact ⟨rfl, rfl, rfl, Nat.le_of_eq (size_setRow w b _).symm, fun k hk => setRow_other w b k _ (by omega)⟩
theorem info9 : (Tryz.prog.info? 9).map (fun i => (i.zero.map (·.cells.size), i.size, i.bytes)) = some (some 1, 1, 16) := by kernel_rfl
theorem under43 : Tryz.prog.underlying 43 = some (.slice 9) := by kernel_rfl
theorem ofL_iff (s : ByteArray) (l : List UInt8) : s = ofL l ↔ s.data.toList = l := by
 constructor
 . rintro rfl; rfl
 . rintro rfl; rfl
theorem extract_one (s : ByteArray) (k : Nat) (h : k < s.size) (c : UInt8) : ((s.extract k (k + 1)).toList == [c]) = (s[k] == c) := by
 have e : (s.extract k (k + 1)).data.toList = [s[k]] := by
  rw [Lib.extract_data, show k + 1 - k = 1 by omega, List.drop_eq_getElem_cons (by rw [Array.length_toList]; exact h)]
  rfl
 rw [Lib.toList_data, e]
 simp
theorem index1_any (s : ByteArray) (c : UInt8) (w : World) (h1 : s.size <= 1000000) :
 Calls Tryz.prog 165 #[.string s, .string (ofL [c])] w fun e w' => ∃ Z : Int, e = .returned (.int .i64 Z) /\ ((Z = -1 /\ c ∉ s.data.toList) \/ ∃ a t, s.data.toList = a ++ c :: t /\ c ∉ a /\ Z = a.length) /\ Below w.heap.size w w' := by
 have hsz : s.data.toList.length = s.size := by rw [Array.length_toList]; rfl
 have HS := Lib.hid hsz
 clear hsz
 have hc1 : (ofL [c]).size = 1 := rfl
 go_enter Tryz.func165, Tryz.ntmps165
 go_wp2_with (fail)
 go_loopw [5] (fun iv wr => ∃ k : Nat, k <= s.size /\ iv = .int .i64 k /\ Hid (c ∉ s.data.toList.take k) /\ Below w.heap.size w wr) (fun iv wr => s.size - (intOf iv).toNat)
 case atStart => exact ⟨0, by omega, rfl, by simp [Hid], Below.refl _ _⟩
 case round =>
  obtain ⟨k, hk, rfl, hc, hb⟩ := hrel
  by_cases hlt : k < s.size
  . have hcmp := extract_one s k hlt c
    cases hq : (s[k] == c) with
    | true =>
      rw [hq] at hcmp
      go_wp2_with (fail)
      go_ret
      have hqe : s[k] = c := by simpa using hq
      have hkl : k < s.data.toList.length := by rw [HS.out]; exact hlt
      refine ⟨_, rfl, .inr ⟨s.data.toList.take k, s.data.toList.drop (k + 1), ?_, hc.out, ?_⟩, hb⟩
      . have : s.data.toList[k] = c := hqe
        rw [<- this, <- List.drop_eq_getElem_cons hkl, List.take_append_drop]
      . rw [List.length_take, Nat.min_eq_left (by omega)]
    | false =>
      rw [hq] at hcmp
      go_wp2_with (fail)
      go_roundw
      case rel =>
       refine ⟨k + 1, hlt, by simp, ?_, hb⟩
       have hkl : k < s.data.toList.length := by rw [HS.out]; exact hlt
       unfold Hid
       rw [List.take_add_one, List.getElem?_eq_getElem hkl]
       intro hm
       rcases List.mem_append.1 hm with h | h
       . exact hc.out h
       . have h' : c = s.data.toList[k] := by simpa using h
         have : s[k] = c := h'.symm
         rw [this] at hq; simp at hq
      case measure => simp [intOf]; omega
  . go_wp2_with (fail)
    go_ret
    refine ⟨_, rfl, .inl ⟨rfl, ?_⟩, hb⟩
    have := hc.out
    rwa [List.take_of_length_le (by rw [HS.out]; omega)] at this
theorem repl_any (s : ByteArray) (w : World) (h1 : s.size <= 1000000) (hno : (92 : UInt8) ∉ s.data.toList) :
 Calls Tryz.prog 164 #[.string s, .string (ofL [92]), .string (ofL [47])] w fun e w' => e = .returned (.string s) /\ Below w.heap.size w w' := by
 have HNO := Lib.hid hno
 clear hno
 go_enter Tryz.func164, Tryz.ntmps164
 go_wp2_with (fail)
 go_loopw [0, 7] (fun sv ov wr => sv = .string s /\ ov = .slice none 0 0 /\ Below w.heap.size w wr) (fun _ _ _ => 0)
 case atStart => exact ⟨rfl, rfl, Below.refl _ _⟩
 case round =>
  obtain ⟨rfl, rfl, hb⟩ := hrel
  have hlen : ([] : List UInt8).length + s.size <= 1000000000 := by simp; omega
  go_wp2_with (first
   | (refine atConvert 27 9 ?_; refine asList rfl fun KK hKK => ?_; refine wp_toStr (.tmp 52) rfl (fun b => b < w3.heap.size) _ L rfl hO.rd ?_; refine hKK _ _ ?_; clear hKK KK)
   | (at_builtin; refine asList rfl fun KK hKK => ?_; refine go_appS (w0 := w) (.tmp 50) (.tmp 51) rfl w.heap.size _ [] s rfl (Own.nil _ _) rfl hlen hb2 (Nat.le_refl _) ?_; intro A c w3 L hL hl1 hl2 hO hb3 hg; refine hKK _ _ ?_; clear hKK KK)
   | (go_at_call 165; refine (index1_any s 92 _ h1).mono ?_; rintro e w2 ⟨Z, rfl, hZ, hb2'⟩; have hb2 := hb.trans (hb2'.mono hb.size); have hz : Z = -1 := (by rcases hZ with ⟨h, _⟩ | ⟨a, t, ht, _, _⟩; exact h; exact absurd (by rw [ht]; simp) HNO.out); subst hz; clear hZ))
  go_ret
  refine ⟨?_, hb3⟩
  rw [hL.out]; rfl
theorem els_length (l : List UInt8) : (Lib.Pa.els l).length <= l.length + 1 := by
 induction l with
 | nil => simp [Lib.Pa.els]
 | cons c t ih =>
   simp only [Lib.Pa.els]
   split
   . simp; omega
   . split
     . rename_i e r h
       rw [h] at ih; simp at ih ⊢; omega
     . simp
theorem row_addr {w : World} {B e n co : Nat} {A : Option Addr} {us : List Value} (h : w.ownsRow B e 1 (.slice A n co) n us) (h0 : 0 < n) : ∃ g, A = some ⟨g, 0, none⟩ /\ B <= g /\ g < w.heap.size /\ ∀ (j : Nat) (u : Value), us[j]? = some u -> w.cell? ⟨g, j, none⟩ = some u := by
 rcases h.2 with ⟨hv, h1⟩ | ⟨g, cap, cur, hv, hb, hg, _⟩
 . omega
 . injection hv with hv _ _
   subst hv
   refine ⟨g, rfl, hb, (Array.getElem?_eq_some_iff.1 hg).1, fun j u hu => ?_⟩
   have := World.ownsRow.cells h (g := g) (by simp [Value.ownBlock]) j u hu
   rw [Addr.add_mid, Nat.zero_add] at this
   exact this
theorem row_lower {w : World} {B B' e n : Nat} {v : Value} {us : List Value} (h : w.ownsRow B e 1 v n us) (hB : B' <= B) : w.ownsRow B' e 1 v n us := by
 refine ⟨h.1, ?_⟩
 rcases h.2 with hn | ⟨g, cap, cur, rfl, hb', rest⟩
 . exact .inl hn
 . exact .inr ⟨g, cap, cur, rfl, by omega, rest⟩
theorem joinP_no (ps : List (List UInt8)) (c : UInt8) (hc : c ≠ 47) (h : ∀ s ∈ ps, c ∉ s) : c ∉ joinP ps := by
 induction ps with
 | nil => simp [joinP_nil]
 | cons s ps ih =>
   by_cases hp : ps = []
   . subst hp; rw [joinP_one]; exact h s (by simp)
   . rw [joinP_cons s ps hp]
     intro hm
     rcases List.mem_append.1 hm with h1 | h1
     . exact h s (by simp) h1
     . rcases List.mem_cons.1 h1 with h2 | h2
       . exact hc h2
       . exact ih (fun t ht => h t (by simp [ht])) h2
theorem univ_any (s : ByteArray) (w : World) (h1 : s.size <= 1000000) (hno : (92 : UInt8) ∉ s.data.toList) :
 Calls Tryz.prog 160 #[.string s] w fun e w' => e = .returned (.string s) /\ Below w.heap.size w w' := by
 go_enter Tryz.func160, Tryz.ntmps160
 go_wp2_with (go_at_call 164; refine (repl_any s _ h1 hno).mono ?_; rintro e w2 ⟨rfl, hb2⟩)
 go_ret
 exact ⟨rfl, hb2⟩
abbrev SV (l : List UInt8) : Value := .string (ofL l)
theorem size_ofL (l : List UInt8) : (ofL l).size = l.length := by
 show l.toArray.size = _; simp
theorem extract_head (s : ByteArray) (a t : List UInt8) (h : s.data.toList = a ++ t) : s.extract 0 a.length = ofL a := by
 rw [ofL_iff, Lib.extract_data, h]; simp
theorem extract_tail (s : ByteArray) (a t : List UInt8) (c : UInt8) (h : s.data.toList = a ++ c :: t) : s.extract (a.length + 1) s.size = ofL t := by
 rw [ofL_iff, Lib.extract_to_end, h, List.drop_append]; simp
theorem split_any (s : ByteArray) (w : World) (h1 : s.size <= 100000) :
 Calls Tryz.prog 161 #[.string s, .string (ofL [47])] w fun e w' => ∃ A co, e = .returned (.slice A (Lib.Pa.els s.data.toList).length co) /\ w'.ownsRow w.heap.size 9 1 (.slice A (Lib.Pa.els s.data.toList).length co) (Lib.Pa.els s.data.toList).length ((Lib.Pa.els s.data.toList).map SV) /\ Below w.heap.size w w' := by
 obtain ⟨E, hE⟩ : ∃ E, Lib.Pa.els s.data.toList = E := ⟨_, rfl⟩
 rw [hE]
 have hEl : E.length <= s.size + 1 := by rw [<- hE]; have := els_length s.data.toList; rw [Array.length_toList] at this; exact this
 have HE := Lib.hid hE
 clear hE
 have hc1 : (ofL [47]).size = 1 := rfl
 go_enter Tryz.func161, Tryz.ntmps161
 go_wp2_with (fail)
 go_loopw [0, 5] (fun sv ov wr => ∃ (cur : ByteArray) (done : List (List UInt8)) (n : Nat) (A : Option Addr) (co : Nat), sv = .string cur /\ cur.size <= s.size /\ Hid (E = done ++ Lib.Pa.els cur.data.toList) /\ Hid (done.length = n) /\ n <= E.length /\ ov = .slice A n co /\ Hid (wr.ownsRow w.heap.size 9 1 (.slice A n co) n (done.map SV)) /\ Below w.heap.size w wr) (fun sv _ _ => match sv with | .string c => c.size | _ => 0)
 case atStart => exact ⟨s, [], 0, none, 0, rfl, Nat.le_refl _, HE.out.symm, rfl, Nat.zero_le _, rfl, World.ownsRow_nil _ _ _ _, Below.refl _ _⟩
 case round =>
  obtain ⟨cur, done, n, A, co, rfl, hcs, hEd, hn, hnE, rfl, hO, hb⟩ := hrel
  have hbw : ∀ w2, Below wr.heap.size wr w2 -> Below w.heap.size w w2 := fun w2 h => hb.trans (h.mono hb.size)
  have HBW := Lib.hid hbw
  clear hbw
  go_upto_region 14 with (go_at_call 165; refine (index1_any cur 47 _ (by omega)).mono ?_; rintro e w2 ⟨Z, rfl, hZ, hb2⟩)
  have hbw2 := HBW.out _ hb2
  have hO2 : w2.ownsRow w.heap.size 9 1 (.slice A n co) n (done.map SV) := ownsRow_later hO.out hb2
  have HO2 := Lib.hid hO2
  clear hO2
  rcases hZ with ⟨rfl, hno⟩ | ⟨a, t, ht, hna, rfl⟩
  . have hEe : E = done ++ [cur.data.toList] := by rw [hEd.out, els_one _ hno]
    have HEE := Lib.hid hEe
    clear hEe
    go_wp2_with (at_builtin; refine asList rfl fun KK hKK => ?_; refine go_appV (w := w2) under43 info9 (by decide) (.tmp 42) (.tmp 44) rfl w.heap.size w2.heap.size n A co (done.map SV) (.string cur) (by rw [List.length_map]; exact hn.out.symm) rfl HO2.out ((Below.refl _ _).alloc (Nat.le_refl _) _) (by show (w2.heap.push _)[w2.heap.size]? = _; rw [Array.getElem?_push_size]) rfl rfl rfl (by omega) hbw2.size ?_; intro A3 c3 w3 hO3 hb3 hg3; refine hKK _ _ ?_; clear hKK KK)
    go_ret
    have hl : E.length = n + 1 := by rw [HEE.out, List.length_append, hn.out]; rfl
    rw [hl, HEE.out, List.map_append]
    refine ⟨A3, c3, rfl, ?_, hbw2.trans hb3⟩
    have hcur : cur = ofL cur.data.toList := (ofL_iff _ _).2 rfl
    have : SV cur.data.toList = .string cur := by unfold SV; rw [<- hcur]
    rw [<- this] at hO3
    exact hO3
  . have hsz : cur.data.toList.length = cur.size := by rw [Array.length_toList]; rfl
    have hal : a.length + 1 + t.length = cur.size := by rw [<- hsz, ht]; simp; omega
    obtain ⟨q, hq⟩ : ∃ q, a.length = q := ⟨_, rfl⟩
    have hh := extract_head cur a (47 :: t) ht
    have htl := extract_tail cur a t 47 ht
    rw [hq] at hh htl hal
    rw [hq]
    have hEe : E = (done ++ [a]) ++ Lib.Pa.els t := by rw [hEd.out, ht, els_app _ _ hna]; simp
    have HEE := Lib.hid hEe; have HQ := Lib.hid hq; have HAL := Lib.hid hal
    have hq1 : q + 1 <= cur.size := by omega
    have hq2 : (q : Int) + 1 <= (cur.size : Int) := by omega
    clear hEe hsz hq ht hal
    go_wp2_with (at_builtin; refine asList rfl fun KK hKK => ?_; refine go_appV (w := w2) under43 info9 (by decide) (.tmp 46) (.tmp 50) rfl w.heap.size w2.heap.size n A co (done.map SV) (.string (ofL a)) (by rw [List.length_map]; exact hn.out.symm) rfl HO2.out ((Below.refl _ _).alloc (Nat.le_refl _) _) (by show (w2.heap.push _)[w2.heap.size]? = _; rw [Array.getElem?_push_size]) rfl rfl rfl (by omega) hbw2.size ?_; intro A3 c3 w3 hO3 hb3 hg3; refine hKK _ _ ?_; clear hKK KK)
    go_roundw
    case rel =>
     refine ⟨ofL t, done ++ [a], n + 1, A3, c3, rfl, ?_, ?_, ?_, ?_, rfl, ?_, hbw2.trans hb3⟩
     . rw [size_ofL]; have := HAL.out; omega
     . exact HEE.out
     . unfold Hid; rw [List.length_append, hn.out]; rfl
     . rw [HEE.out, List.length_append, List.length_append, hn.out]; simp
     . unfold Hid; rw [List.map_append]; exact hO3
    case measure => show (ofL t).size < cur.size; rw [size_ofL]; have := HAL.out; omega
theorem splitPath_any (ps : List (List UInt8)) (w : World) (hne : ps ≠ []) (h : ∀ s ∈ ps, (47 : UInt8) ∉ s /\ (92 : UInt8) ∉ s /\ s ≠ []) (hl : (joinP ps).length <= 10000) :
 Calls Tryz.prog 148 #[SV (joinP ps)] w fun e w' => ∃ A co, e = .returned (.slice A ps.length co) /\ w'.ownsRow w.heap.size 9 1 (.slice A ps.length co) ps.length (ps.map SV) /\ Below w.heap.size w w' := by
 have hE : Lib.Pa.els (joinP ps) = ps := els_join ps hne (fun s hs => (h s hs).1)
 have hpl : ps.length <= 10001 := by have := els_length (joinP ps); rw [hE] at this; omega
 have hno : (92 : UInt8) ∉ (ofL (joinP ps)).data.toList := joinP_no ps 92 (by decide) (fun s hs => (h s hs).2.1)
 have hsz : (ofL (joinP ps)).size <= 10000 := by rw [size_ofL]; exact hl
 obtain ⟨st, hst⟩ : ∃ st, ofL (joinP ps) = st := ⟨_, rfl⟩
 have hst2 : st.data.toList = joinP ps := by rw [<- hst]
 rw [hst] at hno hsz
 have HNO := Lib.hid hno; have HST := Lib.hid hst2; have HEE := Lib.hid hE; have HH := Lib.hid h
 unfold SV
 rw [hst]
 clear hno hst hst2 hE h
 go_enter Tryz.func148, Tryz.ntmps148
 go_wp2_with (first
  | (at_make; refine asList rfl fun KK hKK => ?_; refine go_makeV under43 info9 (by decide) (.const (.int .i64 0)) (.const (.int .i64 0)) rfl w3.heap.size .i64 .i64 0 rfl rfl (by decide) (Nat.le_refl _) ?_; intro w4 hO4 hb4 hs4; refine hKK _ _ ?_; clear hKK KK)
  | (go_at_call 161; refine (split_any st _ (by omega)).mono ?_; rw [HST.out, HEE.out]; rintro e w3 ⟨A3, c3, rfl, hO3, hb3⟩; have hbw3 := hb2.trans (hb3.mono hb2.size); have HO3 := Lib.hid hO3; clear hO3)
  | (go_at_call 160; refine (univ_any st _ (by omega) HNO.out).mono ?_; rintro e w2 ⟨rfl, hb2⟩))
 go_loopw [5, 15] (fun ov iv wr => ∃ (k : Nat) (A : Option Addr) (co : Nat), k <= ps.length /\ iv = .int .i64 k /\ ov = .slice A k co /\ wr.ownsRow w3.heap.size 9 1 (.slice A k co) k ((ps.take k).map SV) /\ Below w3.heap.size w3 wr) (fun _ iv _ => ps.length - (intOf iv).toNat)
 case atStart => exact ⟨0, _, _, Nat.zero_le _, rfl, rfl, hO4, hb4⟩
 case round =>
  clear hO4 hb4 hs4
  obtain ⟨k, A, co, hk, rfl, rfl, hO, hb⟩ := hrel
  have hbB := hb.size
  by_cases hlt : k < ps.length
  . obtain ⟨g, hg, _, hgl, hcells⟩ := row_addr HO3.out (by omega)
    have hcell : wr.cell? ⟨g, k, none⟩ = some (SV ps[k]) := by
     rw [hb.cell (p := ⟨g, k, none⟩) hgl]; exact hcells k _ (by rw [List.getElem?_map, List.getElem?_eq_getElem hlt]; rfl)
    subst hg
    obtain ⟨pk, hpk⟩ : ∃ pk, ps[k] = pk := ⟨_, rfl⟩
    have hne := (HH.out ps[k] (List.getElem_mem hlt)).2.2
    rw [hpk] at hne hcell
    have hnb : pk.isEmpty = false := by
     cases pk with
     | nil => exact absurd rfl hne
     | cons a t => rfl
    have HPK := Lib.hid hpk
    have hO' := Lib.hid hO
    clear hO hcells hpk hne
    go_wp2_with (at_builtin; refine asList rfl fun KK hKK => ?_; refine go_appV (w := wr) under43 info9 (by decide) (.tmp 21) (.tmp 23) rfl w3.heap.size wr.heap.size k A co ((ps.take k).map SV) (SV pk) (by rw [List.length_map, List.length_take]; omega) rfl hO'.out ((Below.refl _ _).alloc (Nat.le_refl _) _) (by show (wr.heap.push _)[wr.heap.size]? = _; rw [Array.getElem?_push_size]) rfl rfl rfl (by omega) hbB ?_; intro A5 c5 w5 hO5 hb5 hg5; refine hKK _ _ ?_; clear hKK KK)
    go_roundw
    case rel =>
     refine ⟨k + 1, A5, c5, hlt, by simp, rfl, ?_, hb.trans hb5⟩
     rw [<- List.take_append_getElem hlt, HPK.out, List.map_append]; exact hO5
    case measure => simp [intOf]; omega
  . have hke : k = ps.length := by omega
    subst hke
    rw [List.take_length] at hO
    go_wp2_with (fail)
    go_ret
    exact ⟨A, co, rfl, row_lower hO hbw3.size, hbw3.trans (hb.mono hbw3.size)⟩
end Go.Proofs.YtilgpaeeleknhaaGreatDoor
