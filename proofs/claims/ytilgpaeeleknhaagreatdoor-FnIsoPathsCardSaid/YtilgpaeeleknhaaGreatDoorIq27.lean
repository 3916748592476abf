/-
  DERIVED. A part of the proof of laws.FnIsoPaths (for every input the law returns true and each argument reads as before; the listed variables read as listed when the call begins). It holds:
  · Walks: a path looked up in the path table.
-/
import Derived.Test.YtilgpaeeleknhaaGreatDoorIq25
import Derived.Test.YtilgpaeeleknhaaGreatDoorIq22
import Derived.Test.YtilgpaeeleknhaaGreatDoorIq14
section
namespace Go.Proofs.YtilgpaeeleknhaaGreatDoor
open Go Go.RowKit
set_option linter.unusedSimpArgs false
set_option linter.unusedVariables false
set_option maxRecDepth 10000

/-- A path table in memory. -/
def PtAt (w : World) (PT : Nat) (ms : List Node) (ds : List Nat) : Prop :=
  ∃ bs g co, w.heap[PT]? = some (.cells #[.slice (some ⟨g, 0, none⟩) ds.length co] 243) ∧ g < w.heap.size ∧ (∀ k b, bs[k]? = some b → w.cell? ⟨g, k, none⟩ = some (PB b)) ∧ Boxes w 241 bs (ds.map (ptE ms))
theorem PtAt.later {w w' : World} {PT : Nat} {ms : List Node} {ds : List Nat} (h : PtAt w PT ms ds) (hb : Below w.heap.size w w') : PtAt w' PT ms ds := by
  obtain ⟨bs, g, co, h1, h2, h3, h4⟩ := h
  refine ⟨bs, g, co, ?_, Nat.lt_of_lt_of_le h2 hb.size, fun k b hk => ?_, h4.later hb⟩
  · rw [hb.block _ (Array.getElem?_eq_some_iff.1 h1).1]; exact h1
  · rw [hb.cell (p := ⟨g, k, none⟩) h2]; exact h3 k b hk
/-- What the path table says of a path. -/
def ptLoc (ms : List Node) (ds : List Nat) (ps : List (List UInt8)) : Nat :=
  match ps with
  | [q] => match ptFind ms ds q with | some i => (nodeAt ms i).extent | none => 0
  | _ => 0
def ptHit (ms : List Node) (q : List UInt8) (d : Nat) : Bool := decide ((nodeAt ms (parOf ms d)).number = 1 ∧ pathId ms d = q)
theorem PtAt.entry {w : World} {PT : Nat} {ms : List Node} {ds : List Nat} (h : PtAt w PT ms ds) : ∃ g co, w.cell? ⟨PT, 0, none⟩ = some (.slice (some ⟨g, 0, none⟩) ds.length co) ∧ g < w.heap.size ∧ ∀ k d, ds[k]? = some d → ∃ b, w.cell? ⟨g, k, none⟩ = some (PB b) ∧ b < w.heap.size ∧ w.cell? ⟨b, 3, none⟩ = some (.int .u32 (nodeAt ms d).extent) ∧ w.cell? ⟨b, 4, none⟩ = some (.int .u16 (nodeAt ms (parOf ms d)).number) ∧ w.cell? ⟨b, 5, none⟩ = some (.string (ofL (pathId ms d))) := by
  obtain ⟨bs, g, co, h1, h2, h3, h4⟩ := h
  refine ⟨g, co, by simp [World.cell?, h1], h2, fun k d hk => ?_⟩
  have hkl := (List.getElem?_eq_some_iff.1 hk).1
  have hkb : k < bs.length := by rw [h4.1, List.length_map]; exact hkl
  have hb := h4.2 k hkb (by rw [List.length_map]; exact hkl)
  rw [List.getElem_map, (List.getElem?_eq_some_iff.1 hk).2] at hb
  refine ⟨bs[k], h3 k _ (List.getElem?_eq_getElem hkb), (Array.getElem?_eq_some_iff.1 hb).1, ?_, ?_, ?_⟩ <;> simp [World.cell?, hb, ptE]

theorem ptFind_hit (ms : List Node) (ds : List Nat) (q : List UInt8) (t d : Nat) (hd : ds[t]? = some d) (h1 : ∀ x ∈ ds.take t, ptHit ms q x = false) (h2 : ptHit ms q d = true) : ptFind ms ds q = some d := by
  have ht := (List.getElem?_eq_some_iff.1 hd).1
  have e : ds = ds.take t ++ d :: ds.drop (t + 1) := by
    rw [← (List.getElem?_eq_some_iff.1 hd).2, ← List.drop_eq_getElem_cons ht, List.take_append_drop]
  have hf : (ds.take t).find? (ptHit ms q) = none := by
    rw [List.find?_eq_none]; intro x hx; rw [h1 x hx]; simp
  show ds.find? (ptHit ms q) = some d
  rw [e, List.find?_append, hf, List.find?_cons, h2]; rfl
theorem ptFind_no (ms : List Node) (ds : List Nat) (q : List UInt8) (h1 : ∀ x ∈ ds, ptHit ms q x = false) : ptFind ms ds q = none := by
  show ds.find? (ptHit ms q) = none
  rw [List.find?_eq_none]; intro x hx; rw [h1 x hx]; simp
/-- Path "." : the root's place. -/
theorem ptLoc_dot (PT : Nat) (ms : List Node) (ds : List Nat) (w : World) (h : PtAt w PT ms ds) (h0 : 0 < ds.length) (hd0 : ds.getD 0 0 = 0) (hx : (nodeAt ms 0).extent < 4294967296) :
    Calls Tryz.prog 132 #[PB PT, SV [46]] w fun e w' => e = .returned (.int .u32 (nodeAt ms 0).extent) ∧ Below w.heap.size w w' := by
  have HP := Lib.hid h
  clear h
  have hd : ds[0]? = some 0 := by
    rw [List.getD_eq_getElem?_getD, List.getElem?_eq_getElem h0] at hd0
    rw [List.getElem?_eq_getElem h0]; simpa using hd0
  go_enter Tryz.func132, Tryz.ntmps132
  go_wp2_with (go_at_call 148; refine (splitPath_any [[46]] _ (by simp) (by simp) (by decide)).mono ?_; rintro e w2 ⟨A, co, rfl, hO, hb2⟩; obtain ⟨g, rfl, _, hgl, hc⟩ := row_addr hO (by decide); have c0 := hc 0 _ rfl; obtain ⟨gp, pc, p0, _, hp⟩ := (HP.out.later hb2).entry; obtain ⟨b, p1, _, p2, _⟩ := hp 0 0 hd; clear hc hp hO; simp only [List.length_singleton])
  go_ret
  exact ⟨rfl, hb2⟩
set_option maxRecDepth 100000 in
set_option maxHeartbeats 2000000 in
theorem ptLoc_any (PT : Nat) (ms : List Node) (ds : List Nat) (q : List UInt8) (rest : List (List UInt8)) (w : World) (h : PtAt w PT ms ds) (hdl : ds.length ≤ 10000) (hnd : ds.Nodup) (hps : ∀ s ∈ q :: rest, (47 : UInt8) ∉ s ∧ (92 : UInt8) ∉ s ∧ s ≠ []) (hq : q ≠ [46]) (hl : (joinP (q :: rest)).length ≤ 10000)
    (hap : ∀ i ∈ ds, ∀ j ∈ ds, pathId ms i = q → pathId ms j = q → i = j) (hx : ∀ d, (nodeAt ms d).extent < 4294967296) (hnu : ∀ d, (nodeAt ms d).number < 65536) :
    Calls Tryz.prog 132 #[PB PT, SV (joinP (q :: rest))] w fun e w' => e = .returned (.int .u32 (ptLoc ms ds (q :: rest))) ∧ Below w.heap.size w w' := by
  have hqd : (q == [46]) = false := by simpa using hq
  have hpl : rest.length + 1 ≤ 10001 := by
    have h1 := els_length (joinP (q :: rest))
    rw [els_join _ (by simp) (fun s hs => (hps s hs).1)] at h1
    simp at h1; omega
  obtain ⟨R, hR⟩ : ∃ R, joinP (q :: rest) = R := ⟨_, rfl⟩
  have HSP := Lib.hid (fun w => splitPath_any (q :: rest) w (by simp) hps hl)
  rw [hR] at HSP ⊢
  have HP := Lib.hid h; have HAP := Lib.hid hap; have HND := Lib.hid hnd
  clear h hap hps hl hnd hR hq
  go_enter Tryz.func132, Tryz.ntmps132
  go_wp2_with (go_at_call 148; refine (HSP.out _).mono ?_; rintro e w2 ⟨A, co, rfl, hO, hb2⟩; obtain ⟨g, rfl, _, hgl, hc⟩ := row_addr hO (by simp); have c0 := hc 0 _ rfl; have HPW := Lib.hid (HP.out.later hb2); obtain ⟨gp, pc, p0, hgp, hp⟩ := HPW.out.entry; have HPE := Lib.hid hp; clear hc hp hO; simp only [List.length_cons])
  go_loopw [5, 6, 7, 39] (fun pv lv ov iv wr => ∃ t : Nat, t ≤ ds.length ∧ iv = .int .i64 t ∧ ov = .int .u32 0 ∧ Below w2.heap.size w2 wr ∧ ((pv = .slice (some ⟨g, 0, none⟩) (rest.length + 1) co ∧ lv = .int .u16 1 ∧ Hid (∀ x ∈ ds.take t, ptHit ms q x = false)) ∨ (∃ (z : Int) (PA : Option Addr) (pn pq : Nat), pv = .slice PA pn pq ∧ lv = .int .u16 z ∧ 0 < rest.length ∧ Hid (∀ x ∈ ds.drop t, pathId ms x ≠ q)))) (fun _ _ _ iv _ => ds.length - (intOf iv).toNat)
  case atStart => exact ⟨0, Nat.zero_le _, rfl, rfl, Below.refl _ _, .inl ⟨rfl, rfl, by simp [Hid]⟩⟩
  case round =>
    obtain ⟨t, ht, rfl, rfl, hb, hst⟩ := hrel
    by_cases hlt : t < ds.length
    · obtain ⟨d, hd⟩ : ∃ d, ds[t]? = some d := ⟨_, List.getElem?_eq_getElem hlt⟩
      obtain ⟨b, p1, hbl, p3, p4, p5⟩ := HPE.out t d hd
      rw [← hb.cell (p := ⟨gp, t, none⟩) hgp] at p1
      rw [← hb.cell (p := ⟨b, 3, none⟩) hbl] at p3
      rw [← hb.cell (p := ⟨b, 4, none⟩) hbl] at p4
      rw [← hb.cell (p := ⟨b, 5, none⟩) hbl] at p5
      have hmem : d ∈ ds := List.mem_of_getElem? hd
      have hxd := hx d
      have hnp := hnu (parOf ms d)
      have hdec : ptHit ms q d = decide ((nodeAt ms (parOf ms d)).number = 1 ∧ pathId ms d = q) := rfl
      obtain ⟨pid, hpid⟩ : ∃ pid, pathId ms d = pid := ⟨_, rfl⟩
      obtain ⟨np, hnpe⟩ : ∃ np, (nodeAt ms (parOf ms d)).number = np := ⟨_, rfl⟩
      obtain ⟨ex, hex⟩ : ∃ ex, (nodeAt ms d).extent = ex := ⟨_, rfl⟩
      rw [hpid] at p5 hdec
      rw [hnpe] at p4 hdec hnp
      rw [hex] at p3 hxd
      have HPID := Lib.hid hpid; have HDEC := Lib.hid hdec; have HEX := Lib.hid hex; have HD := Lib.hid hd
      have hdrop : ds.drop t = d :: ds.drop (t + 1) := by
        rw [List.drop_eq_getElem_cons hlt]; congr 1
        rw [List.getElem?_eq_getElem hlt] at hd; simpa using hd
      have htake : ds.take (t + 1) = ds.take t ++ [d] := by
        rw [← List.take_append_getElem hlt]; congr 2
        rw [List.getElem?_eq_getElem hlt] at hd; simpa using hd
      have HDR := Lib.hid hdrop; have HTK := Lib.hid htake
      clear hpid hnpe hex hdec hd hdrop htake
      rcases hst with ⟨rfl, rfl, hno⟩ | ⟨z, PA, pn, pq, rfl, rfl, hr, hno⟩
      · by_cases h1 : np = 1
        · subst h1
          by_cases h2 : pid = q
          · have h2b : (pid == q) = true := by simpa using h2
            have HH := Lib.hid h2
            clear h2
            have hhit : ptHit ms q d = true := by rw [HDEC.out, HH.out]; simp
            have hone : ∀ x ∈ ds.drop (t + 1), pathId ms x ≠ q := by
              intro x hx hxe
              have hxm : x ∈ ds := List.mem_of_mem_drop hx
              have e := HAP.out x hxm d hmem hxe (by rw [HPID.out, HH.out])
              subst e
              have hn := HND.out
              rw [← List.take_append_drop t ds, HDR.out, List.nodup_append] at hn
              exact (List.nodup_cons.1 hn.2.1).1 hx
            have HHIT := Lib.hid hhit; have HONE := Lib.hid hone
            clear hhit hone
            go_wp2_with (fail)
            · go_roundw
              case rel => exact ⟨t + 1, hlt, by simp, rfl, hb, .inr ⟨_, _, _, _, rfl, rfl, by omega, HONE.out⟩⟩
              case measure => simp [intOf]; omega
            · go_ret
              refine ⟨?_, hb2.trans (hb.mono hb2.size)⟩
              have hr0 : rest = [] := List.eq_nil_of_length_eq_zero (by omega)
              subst hr0
              unfold ptLoc
              simp only
              rw [ptFind_hit ms ds q t d HD.out hno.out HHIT.out]
              simp only
              rw [HEX.out]
              rfl
          · have h2b : (pid == q) = false := by simpa using h2
            go_wp2_with (fail)
            go_roundw
            case rel =>
              refine ⟨t + 1, hlt, by simp, rfl, hb, .inl ⟨rfl, rfl, ?_⟩⟩
              unfold Hid; rw [HTK.out]
              intro x hx
              rcases List.mem_append.1 hx with h | h
              · exact hno.out x h
              · rw [List.mem_singleton] at h; subst h; rw [HDEC.out]; simpa using h2
            case measure => simp [intOf]; omega
        · have h1b : ((np : Int) == 1) = false := by simp; omega
          go_wp2_with (fail)
          go_roundw
          case rel =>
            refine ⟨t + 1, hlt, by simp, rfl, hb, .inl ⟨rfl, rfl, ?_⟩⟩
            unfold Hid; rw [HTK.out]
            intro x hx
            rcases List.mem_append.1 hx with h | h
            · exact hno.out x h
            · rw [List.mem_singleton] at h; subst h; rw [HDEC.out]; simp [h1]
          case measure => simp [intOf]; omega
      · have h2 : pid ≠ q := by have := hno.out; rw [HDR.out] at this; have := this d (by simp); rwa [HPID.out] at this
        have h2b : (pid == q) = false := by simpa using h2
        cases hz : ((np : Int) == z)
        all_goals
          go_wp2_with (fail)
          go_roundw
          case rel =>
            refine ⟨t + 1, hlt, by simp, rfl, hb, .inr ⟨z, PA, pn, pq, rfl, rfl, hr, ?_⟩⟩
            unfold Hid
            intro x hx
            have := hno.out
            rw [HDR.out] at this
            exact this x (by simp [hx])
          case measure => simp [intOf]; omega
    · go_wp2_with (fail)
      go_ret
      have hte : t = ds.length := by omega
      subst hte
      refine ⟨?_, hb2.trans (hb.mono hb2.size)⟩
      have e : ptLoc ms ds (q :: rest) = 0 := by
        rcases hst with ⟨_, _, hno⟩ | ⟨z, _, _, _, _, _, hr, hno⟩
        · have hno := hno.out
          rw [List.take_length] at hno
          cases rest with
          | nil => unfold ptLoc; simp only; rw [ptFind_no ms ds q hno]
          | cons a l => rfl
        · cases rest with
          | nil => simp at hr
          | cons a l => rfl
      rw [e]; rfl
end Go.Proofs.YtilgpaeeleknhaaGreatDoor
end
