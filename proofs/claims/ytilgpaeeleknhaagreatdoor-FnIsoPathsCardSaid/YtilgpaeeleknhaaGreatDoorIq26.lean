/-
  DERIVED. A part of the proof of laws.FnIsoPaths (for every input the law returns true and each argument reads as before; the listed variables read as listed when the call begins). It holds:
  · Walks: oneOf, thereIs, parts.
-/
import Derived.Test.YtilgpaeeleknhaaGreatDoorIq22
import Derived.Test.YtilgpaeeleknhaaGreatDoorIq11
section
namespace Go.Proofs.YtilgpaeeleknhaaGreatDoor
open Go Go.RowKit
set_option linter.unusedSimpArgs false
set_option linter.unusedVariables false
theorem str_beq {a b : ByteArray} : (a.toList == b.toList) = true ↔ a = b := by
  rw [Lib.toList_data, Lib.toList_data, beq_iff_eq]
  exact ⟨ba_ext, fun h => by rw [h]⟩
theorem str_ne {a b : ByteArray} (h : a ≠ b) : (a.toList == b.toList) = false := by
  cases hh : (a.toList == b.toList) with
  | false => rfl
  | true => exact absurd (str_beq.1 hh) h
set_option maxRecDepth 100000 in
theorem oneOf_any (B co : Nat) (A : Option Addr) (xs : List ByteArray) (s : ByteArray) (w : World) (hO : w.ownsRow B 9 1 (.slice A xs.length co) xs.length (xs.map Value.string)) (hl : xs.length ≤ 100000) :
    Calls Tryz.prog 40 #[.slice A xs.length co, .string s] w fun e w' => (∃ r, e = .returned (.bool r) ∧ (r = true ↔ s ∈ xs)) ∧ w' = w := by
  have HO := Lib.hid hO
  clear hO
  go_enter Tryz.func40, Tryz.ntmps40
  go_wp2_with (fail)
  go_loopw [9] (fun iv wr => ∃ t : Nat, t ≤ xs.length ∧ iv = .int .i64 t ∧ Hid (∀ x ∈ xs.take t, x ≠ s) ∧ wr = w) (fun iv _ => xs.length - (intOf iv).toNat)
  case atStart => exact ⟨0, Nat.zero_le _, rfl, by simp [Hid], rfl⟩
  case round =>
    obtain ⟨t, ht, rfl, hno, rfl⟩ := hrel
    by_cases hlt : t < xs.length
    · obtain ⟨x, hx⟩ : ∃ x, xs[t]? = some x := ⟨_, List.getElem?_eq_getElem hlt⟩
      obtain ⟨g, rfl, _, hg, hc⟩ := row_addr HO.out (by omega)
      have hp := hc t (.string x) (by rw [List.getElem?_map, hx]; rfl)
      have htk : xs.take (t + 1) = xs.take t ++ [x] := by
        rw [← List.take_append_getElem hlt]; congr 2
        rw [List.getElem?_eq_getElem hlt] at hx; simpa using hx
      have HTK := Lib.hid htk; have HX := Lib.hid hx
      clear htk hx hc
      by_cases hq : x = s
      · have hqb := str_beq.2 hq
        have HQ := Lib.hid hq
        clear hq
        go_wp2_with (fail)
        go_ret
        exact ⟨⟨true, rfl, by rw [← HQ.out]; exact ⟨fun _ => List.mem_of_getElem? HX.out, fun _ => rfl⟩⟩, rfl⟩
      · have hqb := str_ne hq
        go_wp2_with (fail)
        go_roundw
        case rel =>
          refine ⟨t + 1, hlt, by simp, ?_, by first | rfl | trivial⟩
          unfold Hid; rw [HTK.out]
          intro y hy
          rcases List.mem_append.1 hy with h | h
          · exact hno.out y h
          · rw [List.mem_singleton] at h; subst h; exact hq
        case measure => simp [intOf]; omega
    · have hte : t = xs.length := by omega
      subst hte
      go_wp2_with (fail)
      go_ret
      have hno := hno.out
      rw [List.take_length] at hno
      exact ⟨⟨false, rfl, by simpa using fun h => hno s h rfl⟩, rfl⟩
set_option maxRecDepth 100000 in
theorem thereIs_any (cap : Nat) (A : Option Addr) (fs : List File) (s : ByteArray) (w : World) (hA : FilesR w w.heap.size A fs) (hl : fs.length ≤ 100000) (hcap : fs.length ≤ cap) :
    Calls Tryz.prog 39 #[.slice A fs.length cap, .string s] w fun e w' => (∃ r, e = .returned (.bool r) ∧ (r = true ↔ ∃ f ∈ fs, f.path = s)) ∧ Below w.heap.size w w' := by
  have HA := Lib.hid hA
  clear hA
  go_enter Tryz.func39, Tryz.ntmps39
  go_wp2_with (fail)
  go_loopw [9] (fun iv wr => ∃ t : Nat, t ≤ fs.length ∧ iv = .int .i64 t ∧ Hid (∀ x ∈ fs.take t, x.path ≠ s) ∧ Below w.heap.size w wr) (fun iv _ => fs.length - (intOf iv).toNat)
  case atStart => exact ⟨0, Nat.zero_le _, rfl, by simp [Hid], Below.refl _ _⟩
  case round =>
    obtain ⟨t, ht, rfl, hno, hb⟩ := hrel
    by_cases hlt : t < fs.length
    · obtain ⟨x, hx⟩ : ∃ x, fs[t]? = some x := ⟨_, List.getElem?_eq_getElem hlt⟩
      obtain ⟨b, o, rfl, hob, hcells⟩ := HA.out.keep hb (Nat.le_refl _) t hlt
      have hxe : fs[t] = x := by rw [List.getElem?_eq_getElem hlt] at hx; simpa using hx
      rw [hxe] at hcells
      have htk : fs.take (t + 1) = fs.take t ++ [x] := by
        rw [← List.take_append_getElem hlt, hxe]
      have HTK := Lib.hid htk; have HX := Lib.hid hx
      clear htk hx hxe
      by_cases hq : x.path = s
      · have hqb := str_beq.2 hq
        have HQ := Lib.hid hq
        clear hq
        go_wp2_with (first
          | (refine atLoad 37 ?_; go_must (refine wpList_loadFile rfl (.tmp 11) rfl rfl hcells ?_))
          | (refine atStore 37 ?_; go_must (refine wpList_storeNew rfl 37 _ _ rfl _ _ _ _ rfl rfl (by exact info37) (by rfl) (by rfl) ?_)))
        go_ret
        exact ⟨⟨true, rfl, ⟨fun _ => ⟨x, List.mem_of_getElem? HX.out, HQ.out⟩, fun _ => rfl⟩⟩, hb.alloc hb.size _⟩
      · have hqb := str_ne hq
        go_wp2_with (first
          | (refine atLoad 37 ?_; go_must (refine wpList_loadFile rfl (.tmp 11) rfl rfl hcells ?_))
          | (refine atStore 37 ?_; go_must (refine wpList_storeNew rfl 37 _ _ rfl _ _ _ _ rfl rfl (by exact info37) (by rfl) (by rfl) ?_)))
        go_roundw
        case rel =>
          refine ⟨t + 1, hlt, by simp, ?_, hb.alloc hb.size _⟩
          unfold Hid; rw [HTK.out]
          intro y hy
          rcases List.mem_append.1 hy with h | h
          · exact hno.out y h
          · rw [List.mem_singleton] at h; subst h; exact hq
        case measure => simp [intOf]; omega
    · have hte : t = fs.length := by omega
      subst hte
      go_wp2_with (fail)
      go_ret
      have hno := hno.out
      rw [List.take_length] at hno
      exact ⟨⟨false, rfl, by simpa using fun f hf => hno f hf⟩, hb⟩
/-- What stands after t places of a path: done is done, the part at hand begins at a. -/
def Mida (s : ByteArray) (done : List (List UInt8)) (a t : Nat) : Prop :=
  if t ≤ s.size then Lib.Pa.els s.data.toList = done ++ Lib.Pa.els (s.data.toList.drop a) ∧ a ≤ t ∧ ∀ j, a ≤ j → j < t → s.data.toList[j]? ≠ some 47
  else Lib.Pa.els s.data.toList = done
theorem drop_part (l : List UInt8) (a t : Nat) (h1 : a ≤ t) (h2 : t ≤ l.length) (h : ∀ j, a ≤ j → j < t → l[j]? ≠ some 47) : (47 : UInt8) ∉ (l.drop a).take (t - a) := by
  intro hm
  obtain ⟨j, hj⟩ := List.mem_iff_getElem?.1 hm
  rw [List.getElem?_take] at hj
  split at hj
  · rw [List.getElem?_drop] at hj
    exact h (a + j) (by omega) (by omega) hj
  · cases hj
theorem Mida.cut {s : ByteArray} {done : List (List UInt8)} {a t : Nat} (h : Mida s done a t) (ht : t < s.size) (hc : s.data.toList[t]? = some 47) : Mida s (done ++ [(s.data.toList.drop a).take (t - a)]) (t + 1) (t + 1) := by
  have hsz : s.data.toList.length = s.size := by rw [Array.length_toList]; rfl
  unfold Mida at *
  rw [if_pos (by omega)] at h
  obtain ⟨h1, h2, h3⟩ := h
  rw [if_pos (by omega)]
  refine ⟨?_, Nat.le_refl _, fun j a b => by omega⟩
  have e : s.data.toList.drop a = (s.data.toList.drop a).take (t - a) ++ 47 :: s.data.toList.drop (t + 1) := by
    have e1 := (List.take_append_drop (t - a) (s.data.toList.drop a)).symm
    have e2 : (s.data.toList.drop a).drop (t - a) = 47 :: s.data.toList.drop (t + 1) := by
      rw [List.drop_drop, show a + (t - a) = t by omega, List.drop_eq_getElem_cons (by omega)]
      congr 1
      rw [List.getElem?_eq_getElem (by omega)] at hc
      simpa using hc
    rw [e2] at e1
    exact e1
  rw [h1, e, els_app _ _ (drop_part _ a t h2 (by omega) h3), ← e]
  simp
theorem Mida.end {s : ByteArray} {done : List (List UInt8)} {a : Nat} (h : Mida s done a s.size) : Mida s (done ++ [(s.data.toList.drop a).take (s.size - a)]) (s.size + 1) (s.size + 1) := by
  have hsz : s.data.toList.length = s.size := by rw [Array.length_toList]; rfl
  unfold Mida at *
  rw [if_pos (Nat.le_refl _)] at h
  obtain ⟨h1, h2, h3⟩ := h
  rw [if_neg (by omega), h1]
  have hd := drop_part _ a s.size h2 (by omega) h3
  rw [List.take_of_length_le (by rw [List.length_drop]; omega)] at hd ⊢
  rw [els_one _ hd]
theorem Mida.skip {s : ByteArray} {done : List (List UInt8)} {a t : Nat} (h : Mida s done a t) (ht : t < s.size) (hc : s.data.toList[t]? ≠ some 47) : Mida s done a (t + 1) := by
  unfold Mida at *
  rw [if_pos (by omega)] at h ⊢
  obtain ⟨h1, h2, h3⟩ := h
  refine ⟨h1, by omega, fun j b c => ?_⟩
  by_cases e : j = t
  · subst e; exact hc
  · exact h3 j b (by omega)
theorem Mida.le {s : ByteArray} {done : List (List UInt8)} {a t : Nat} (h : Mida s done a t) : done.length ≤ s.size + 1 := by
  have hsz : s.data.toList.length = s.size := by rw [Array.length_toList]; rfl
  have hl := els_length s.data.toList
  rw [hsz] at hl
  unfold Mida at h
  split at h
  · rw [h.1, List.length_append] at hl; omega
  · rw [h] at hl; exact hl
theorem extract_part (s : ByteArray) (a t : Nat) (h : t ≤ s.size) : s.extract a t = ofL ((s.data.toList.drop a).take (t - a)) := by
  apply ba_ext
  simp only [Lib.extract_data]
set_option maxRecDepth 100000 in
set_option maxHeartbeats 2000000 in
theorem parts_any (s : ByteArray) (w : World) (h1 : s.size ≤ 2147483647) :
    Calls Tryz.prog 22 #[.string s] w fun e w' => ∃ A co, e = .returned (.slice A (Lib.Pa.els s.data.toList).length co) ∧ w'.ownsRow w.heap.size 9 1 (.slice A (Lib.Pa.els s.data.toList).length co) (Lib.Pa.els s.data.toList).length ((Lib.Pa.els s.data.toList).map SV) ∧ Below w.heap.size w w' := by
  have hsz : s.data.toList.length = s.size := by rw [Array.length_toList]; rfl
  have HS := Lib.hid hsz
  clear hsz
  go_enter Tryz.func22, Tryz.ntmps22
  go_wp2_with (fail)
  go_loopw [3, 4, 5] (fun ov av iv wr => ∃ (t a n : Nat) (done : List (List UInt8)) (A : Option Addr) (co : Nat), t ≤ s.size + 1 ∧ a ≤ t ∧ iv = .int .i64 t ∧ av = .int .i64 a ∧ ov = .slice A n co ∧ Hid (done.length = n) ∧ n ≤ s.size + 1 ∧ Hid (Mida s done a t) ∧ Hid (wr.ownsRow w.heap.size 9 1 (.slice A n co) n (done.map SV)) ∧ Below w.heap.size w wr) (fun _ _ iv _ => s.size + 1 - (intOf iv).toNat)
  case atStart =>
    refine ⟨0, 0, 0, [], none, 0, Nat.zero_le _, Nat.le_refl _, rfl, rfl, rfl, rfl, Nat.zero_le _, ?_, World.ownsRow_nil _ _ _ _, Below.refl _ _⟩
    unfold Hid Mida; rw [if_pos (Nat.zero_le _)]; exact ⟨rfl, Nat.le_refl _, fun j a b => by omega⟩
  case round =>
    obtain ⟨t, a, n, done, A, co, ht, hat, rfl, rfl, rfl, hn, hnE, hM, hO, hb⟩ := hrel
    have hsize := hb.size
    by_cases hlt : t ≤ s.size
    · by_cases hend : t = s.size
      · subst hend
        have hex := extract_part s a s.size (Nat.le_refl _)
        have HX := Lib.hid hex
        obtain ⟨sg, hsg⟩ : ∃ sg, s.extract a s.size = sg := ⟨_, rfl⟩
        have HSG := Lib.hid hsg
        have hlen : n = (done.map SV).length := by rw [List.length_map]; exact hn.out.symm
        have HLE := Lib.hid hlen
        clear hex hsg hlen
        go_wp2_with (at_builtin; refine asList rfl fun KK hKK => ?_; refine go_appV (w := wr) under43 info9 (by decide) (.tmp 22) (.tmp 27) rfl w.heap.size wr.heap.size n A co (done.map SV) (.string (s.extract a s.size)) HLE.out rfl hO.out ((Below.refl _ _).alloc (Nat.le_refl _) _) (by show (wr.heap.push _)[wr.heap.size]? = _; rw [Array.getElem?_push_size]) rfl rfl rfl (by omega) hsize ?_; intro A3 c3 w3 hO3 hb3 hg3; refine hKK _ _ ?_; clear hKK KK)
        go_roundw
        case rel =>
          have hM2 := Mida.end hM.out
          refine ⟨s.size + 1, s.size + 1, n + 1, done ++ [(s.data.toList.drop a).take (s.size - a)], A3, c3, Nat.le_refl _, Nat.le_refl _, by simp, by simp, rfl, ?_, ?_, hM2, ?_, hb.trans hb3⟩
          · unfold Hid; rw [List.length_append, hn.out]; rfl
          · have := hM2.le; rw [List.length_append, hn.out] at this; simpa using this
          · unfold Hid; rw [List.map_append, List.map_singleton]; rw [HX.out] at hO3; exact hO3
        case measure => simp [intOf]
      · have hts : t < s.size := by omega
        by_cases hc : s.data.toList[t]? = some 47
        · have hcb : ((s[t].toNat : Int) == 47) = true := by
            rw [List.getElem?_eq_getElem (by rw [HS.out]; omega)] at hc
            have : s[t] = 47 := Option.some.inj hc
            rw [this]; rfl
          have hex := extract_part s a t (by omega)
          have HX := Lib.hid hex; have HC := Lib.hid hc
          have hlen : n = (done.map SV).length := by rw [List.length_map]; exact hn.out.symm
          have HLE := Lib.hid hlen
          clear hex hlen hc
          go_wp2_with (at_builtin; refine asList rfl fun KK hKK => ?_; refine go_appV (w := wr) under43 info9 (by decide) (.tmp 22) (.tmp 27) rfl w.heap.size wr.heap.size n A co (done.map SV) (.string (s.extract a t)) HLE.out rfl hO.out ((Below.refl _ _).alloc (Nat.le_refl _) _) (by show (wr.heap.push _)[wr.heap.size]? = _; rw [Array.getElem?_push_size]) rfl rfl rfl (by omega) hsize ?_; intro A3 c3 w3 hO3 hb3 hg3; refine hKK _ _ ?_; clear hKK KK)
          go_roundw
          case rel =>
            have hM2 := Mida.cut hM.out hts HC.out
            refine ⟨t + 1, t + 1, n + 1, done ++ [(s.data.toList.drop a).take (t - a)], A3, c3, by omega, Nat.le_refl _, by simp, by simp, rfl, ?_, ?_, hM2, ?_, hb.trans hb3⟩
            · unfold Hid; rw [List.length_append, hn.out]; rfl
            · have := hM2.le; rw [List.length_append, hn.out] at this; simpa using this
            · unfold Hid; rw [List.map_append, List.map_singleton]; rw [HX.out] at hO3; exact hO3
          case measure => simp [intOf]; omega
        · have hcb : ((s[t].toNat : Int) == 47) = false := by
            rw [List.getElem?_eq_getElem (by rw [HS.out]; omega)] at hc
            have h2 : s[t] ≠ 47 := by intro e; apply hc; congr 1
            simp only [beq_eq_false_iff_ne]
            intro e; apply h2; apply UInt8.toNat_inj.1; show s[t].toNat = 47; omega
          have HC := Lib.hid hc
          clear hc
          go_wp2_with (fail)
          go_roundw
          case rel =>
            exact ⟨t + 1, a, n, done, A, co, by omega, by omega, by simp, rfl, rfl, hn, hnE, Mida.skip hM.out hts HC.out, hO, hb⟩
          case measure => simp [intOf]; omega
    · have hte : t = s.size + 1 := by omega
      subst hte
      go_wp2_with (fail)
      go_ret
      have hM := hM.out
      unfold Mida at hM
      rw [if_neg (by omega)] at hM
      rw [hM, hn.out]
      exact ⟨A, co, rfl, hO.out, hb⟩
end Go.Proofs.YtilgpaeeleknhaaGreatDoor
end
