/-
  DERIVED. A part of the proof of laws.FnIsoPaths (for every input the law returns true and each argument reads as before; the listed variables read as listed when the call begins). It holds:
  · Walks: plainName, zzFits3, zzFits4.
  · Walks: zzFits3, treeGood.
  · Walks: treeGood, for plain names.
  · Walks: apartDirs.
-/
import Derived.Test.YtilgpaeeleknhaaGreatDoorIq15
import Derived.Test.YtilgpaeeleknhaaGreatDoorIq26
section
namespace Go.Proofs.YtilgpaeeleknhaaGreatDoor
open Go Go.RowKit
set_option linter.unusedSimpArgs false
set_option linter.unusedVariables false
/-- What is known of a name's first t signs; p: the place of its point. -/
structure PN (l : List UInt8) (t : Nat) (p : Int) : Prop where
  chr : ∀ j b, j < t → l[j]? = some b → (65 ≤ b.toNat ∧ b.toNat ≤ 90) ∨ (48 ≤ b.toNat ∧ b.toNat ≤ 57) ∨ b.toNat = 95 ∨ (b.toNat = 46 ∧ (j : Int) = p)
  pt : p = -1 ∨ (0 < p ∧ p < t)
theorem PN.start (l : List UInt8) : PN l 0 (-1) := ⟨fun j b h => by omega, .inl rfl⟩
theorem PN.dot {l : List UInt8} {t : Nat} (h : PN l t (-1)) (hc : ∀ b, l[t]? = some b → b.toNat = 46) (h0 : 0 < t) : PN l (t + 1) t := by
  refine ⟨fun j b hj hb => ?_, .inr ⟨by omega, by omega⟩⟩
  by_cases e : j = t
  · subst e; exact .inr (.inr (.inr ⟨hc b hb, rfl⟩))
  · rcases h.chr j b (by omega) hb with h1 | h1 | h1 | ⟨h1, h2⟩
    · exact .inl h1
    · exact .inr (.inl h1)
    · exact .inr (.inr (.inl h1))
    · omega
theorem PN.chr' {l : List UInt8} {t : Nat} {p : Int} (h : PN l t p) (hc : ∀ b, l[t]? = some b → (65 ≤ b.toNat ∧ b.toNat ≤ 90) ∨ (48 ≤ b.toNat ∧ b.toNat ≤ 57) ∨ b.toNat = 95) : PN l (t + 1) p := by
  refine ⟨fun j b hj hb => ?_, h.pt.imp id fun h => ⟨h.1, by omega⟩⟩
  by_cases e : j = t
  · subst e
    rcases hc b hb with h1 | h1 | h1
    · exact .inl h1
    · exact .inr (.inl h1)
    · exact .inr (.inr (.inl h1))
  · exact h.chr j b (by omega) hb
theorem PN.fin {l : List UInt8} {p : Int} (h : PN l l.length p) (hl : (p < 0 ∧ 1 ≤ l.length ∧ l.length ≤ 8) ∨ (0 ≤ p ∧ p ≤ 8 ∧ 1 ≤ (l.length : Int) - p - 1 ∧ (l.length : Int) - p - 1 ≤ 3)) : PlainName l := by
  have hpt := h.pt
  refine ⟨fun b hb => ?_, ?_, ?_, by omega⟩
  · obtain ⟨j, hj⟩ := List.mem_iff_getElem?.1 hb
    have := h.chr j b (List.getElem?_eq_some_iff.1 hj).1 hj
    omega
  · intro e
    have e0 : l[0]? = some 46 := by rw [← e]; exact (List.head?_eq_getElem? (l := l)).symm
    have := h.chr 0 46 (by omega) e0
    rcases this with h1 | h1 | h1 | ⟨h1, h2⟩
    · exact absurd h1.1 (by decide)
    · exact absurd h1.1 (by decide)
    · exact absurd h1 (by decide)
    · omega
  · intro e
    rw [List.getLast?_eq_getElem?] at e
    have := h.chr (l.length - 1) 46 (by omega) e
    rcases this with h1 | h1 | h1 | ⟨h1, h2⟩
    · exact absurd h1.1 (by decide)
    · exact absurd h1.1 (by decide)
    · exact absurd h1 (by decide)
    · omega
set_option maxRecDepth 100000 in
set_option maxHeartbeats 4000000 in
theorem plainName_any (s : ByteArray) (d : Bool) (w : World) (h1 : s.size ≤ 2147483647) :
    Calls Tryz.prog 23 #[.string s, .bool d] w fun e w' => BoolR e (fun r => r = true → PlainName s.data.toList) ∧ w' = w := by
  have hsz : s.data.toList.length = s.size := by rw [Array.length_toList]; rfl
  have HS := Lib.hid hsz
  clear hsz
  go_enter Tryz.func23, Tryz.ntmps23
  go_wp2_with (fail)
  go_loopw [5, 10] (fun pv iv wr => ∃ (t : Nat) (p : Int), t ≤ s.size ∧ -1 ≤ p ∧ p ≤ 2147483647 ∧ iv = .int .i64 t ∧ pv = .int .i64 p ∧ Hid (PN s.data.toList t p) ∧ wr = w) (fun _ iv _ => s.size - (intOf iv).toNat)
  case atStart => exact ⟨0, -1, Nat.zero_le _, by omega, by omega, rfl, rfl, PN.start _, rfl⟩
  case round =>
    obtain ⟨t, p, ht, hp1, hp2, rfl, rfl, hP, rfl⟩ := hrel
    by_cases hlt : t < s.size
    · have hgt : ∀ b, s.data.toList[t]? = some b → b.toNat = s[t].toNat := by
        intro b hb
        rw [List.getElem?_eq_getElem (by rw [HS.out]; omega)] at hb
        have : s[t] = b := Option.some.inj hb
        rw [this]
      have HG := Lib.hid hgt
      have hc0 : s[t].toNat < 256 := by have := s[t].toNat_lt; omega
      clear hgt
      obtain ⟨c, hc⟩ : ∃ c : Nat, s[t].toNat = c := ⟨_, rfl⟩
      have HC := Lib.hid hc
      have hcI : (s[t].toNat : Int) = (c : Int) := by omega
      rw [hc] at hc0
      clear hc
      go_wp2_with (fail)
      all_goals first
        | (go_ret; exact ⟨BoolR.intro false (fun h => by cases h), rfl⟩)
        | (go_roundw
           case rel =>
             first
             | exact ⟨t + 1, p, hlt, by omega, by omega, by simp, rfl, PN.chr' hP.out (fun b hb => by have := HG.out b hb; rw [HC.out] at this; first | omega | (simp_all; done) | (simp_all; omega)), by first | rfl | trivial⟩
             | exact ⟨t + 1, t, hlt, by omega, by omega, by simp, rfl, PN.dot (by have := hP.out; have e : p = -1 := (by omega); rw [e] at this; exact this) (fun b hb => by have := HG.out b hb; rw [HC.out] at this; omega) (by omega), by first | rfl | trivial⟩
           case measure => simp [intOf]; omega)
    · have hte : t = s.size := by omega
      subst hte
      have hpt := hP.out.pt
      go_wp2_with (fail)
      all_goals
        go_ret
        refine ⟨BoolR.intro _ (fun hr => ?_), rfl⟩
        have hP := hP.out
        rw [← HS.out] at hP
        refine PN.fin hP ?_
        rw [HS.out]
        first | omega | (exfalso; simp_all; done) | (simp_all <;> omega)
set_option maxRecDepth 100000 in
theorem zzFits4_any (f : File) (w : World) : Calls Tryz.prog 21 #[.agg f.cells.toArray] w fun e w' => BoolR e (fun r => r = true → f.path.size ≤ 2147483647 ∧ f.data.size ≤ 2147483647 ∧ f.target.size ≤ 2147483647) ∧ Below w.heap.size w w' := by
  go_enter Tryz.func21, Tryz.ntmps21
  go_wp2_with (fail)
  all_goals
    go_ret
    refine ⟨BoolR.intro _ (fun hr => ?_), (Below.refl _ _).alloc (Nat.le_refl _) _⟩
    first | (cases hr; done) | (refine ⟨?_, ?_, ?_⟩ <;> omega)
end Go.Proofs.YtilgpaeeleknhaaGreatDoor
end

section
namespace Go.Proofs.YtilgpaeeleknhaaGreatDoor
open Go Go.RowKit
set_option linter.unusedSimpArgs false
set_option linter.unusedVariables false
structure FitF (f : File) : Prop where
  path : f.path.size ≤ 2147483647
  data : f.data.size ≤ 2147483647
  target : f.target.size ≤ 2147483647
set_option maxRecDepth 100000 in
set_option maxHeartbeats 2000000 in
theorem zzFits3_any (cap : Nat) (A : Option Addr) (fs : List File) (w : World) (hA : FilesR w w.heap.size A fs) (hl : fs.length ≤ 4611686018427387904) (hcap : fs.length ≤ cap) :
    Calls Tryz.prog 6 #[.slice A fs.length cap] w fun e w' => BoolR e (fun r => (r = true → fs.length ≤ 2147483647 ∧ ∀ f ∈ fs, FitF f)) ∧ Below w.heap.size w w' := by
  have HA := Lib.hid hA
  clear hA
  by_cases hbig : fs.length ≤ 2147483647
  · have hbb : decide ((2147483647 : Int) < (fs.length : Int)) = false := by simp; omega
    go_enter Tryz.func6, Tryz.ntmps6
    go_wp2_with (fail)
    go_loopw [10] (fun iv wr => ∃ t : Nat, t ≤ fs.length ∧ iv = .int .i64 t ∧ Hid (∀ f ∈ fs.take t, FitF f) ∧ Below w.heap.size w wr) (fun iv _ => fs.length - (intOf iv).toNat)
    case atStart => exact ⟨0, Nat.zero_le _, rfl, by simp [Hid], Below.refl _ _⟩
    case round =>
      obtain ⟨t, ht, rfl, hno, hb⟩ := hrel
      by_cases hlt : t < fs.length
      · obtain ⟨x, hx⟩ : ∃ x, fs[t] = x := ⟨_, rfl⟩
        obtain ⟨b, o, rfl, hob, hcells⟩ := HA.out.keep hb (Nat.le_refl _) t hlt
        rw [hx] at hcells
        have htk : fs.take (t + 1) = fs.take t ++ [x] := by rw [← List.take_append_getElem hlt, hx]
        have HTK := Lib.hid htk
        clear htk hx
        go_wp2_with (first
          | (go_at_call 21; go_must (refine (zzFits4_any x _).mono ?_); rintro e w4 ⟨⟨r, rfl, hr⟩, hb4⟩; have HR := Lib.hid hr; clear hr)
          | (refine atLoad 37 ?_; refine wpList_loadFile rfl (.tmp 4) rfl rfl (rangeAt_alloc wr x.cells 37) ?_)
          | (refine atLoad 37 ?_; go_must (refine wpList_loadFile rfl (.tmp 12) rfl rfl hcells ?_))
          | (refine atStore 37 ?_; go_must (refine wpList_storeNew rfl 37 _ _ rfl _ _ _ _ rfl rfl (by exact info37) (by rfl) (by rfl) ?_)))
        all_goals have hbx : Below w.heap.size w w4 := (hb.alloc hb.size _).trans (hb4.mono (by have := hb.size; simp; omega))
        all_goals first
          | (go_ret
             exact ⟨BoolR.intro false (fun h => by cases h), hbx⟩)
          | (go_roundw
             case rel =>
               refine ⟨t + 1, hlt, by simp, ?_, hbx⟩
               unfold Hid; rw [HTK.out]
               intro y hy
               rcases List.mem_append.1 hy with h | h
               · exact hno.out y h
               · rw [List.mem_singleton] at h; subst h
                 have := HR.out (by simp_all)
                 exact ⟨this.1, this.2.1, this.2.2⟩
             case measure => simp [intOf]; omega)
      · have hte : t = fs.length := by omega
        subst hte
        go_wp2_with (fail)
        go_ret
        have hno := hno.out
        rw [List.take_length] at hno
        exact ⟨BoolR.intro true (fun _ => ⟨hbig, hno⟩), hb⟩
  · have hbb : decide ((2147483647 : Int) < (fs.length : Int)) = true := by simp; omega
    go_enter Tryz.func6, Tryz.ntmps6
    go_wp2_with (fail)
    go_ret
    exact ⟨BoolR.intro false (fun h => by cases h), Below.refl _ _⟩
def sumD (l : List File) : Nat := (l.map (·.data.size)).sum
theorem sumD_snoc (l : List File) (f : File) : sumD (l ++ [f]) = sumD l + f.data.size := by simp [sumD]
theorem sumD_mem (l : List File) (f : File) (h : f ∈ l) : f.data.size ≤ sumD l := by
  induction l with
  | nil => cases h
  | cons g l ih =>
    have e : sumD (g :: l) = g.data.size + sumD l := by simp [sumD]
    rw [e]
    rcases List.mem_cons.1 h with rfl | h
    · omega
    · have := ih h; omega
theorem ByteArray_empty {s : ByteArray} : s.size = 0 ↔ s = ⟨#[]⟩ := by
  constructor
  · intro h
    apply ba_ext
    have : s.data.toList.length = 0 := by rw [Array.length_toList]; exact h
    simpa using List.length_eq_zero_iff.1 this
  · rintro rfl; rfl
/-- The directory's name as the loop builds it: i parts of a path of m done. -/
def dirTo (E : List (List UInt8)) (i : Nat) : List UInt8 := joinP (E.take (min i (E.length - 1)))
theorem dirTo_zero (E : List (List UInt8)) : dirTo E 0 = [] := by simp [dirTo, joinP_nil]
theorem dirTo_first (E : List (List UInt8)) (s : List UInt8) (h : E[0]? = some s) (h1 : 0 < E.length - 1) : dirTo E 1 = s := by
  unfold dirTo
  rw [Nat.min_eq_left (by omega)]
  cases E with
  | nil => cases h
  | cons a E => simp at h; subst h; simp [joinP_one]
theorem dirTo_next (E : List (List UInt8)) (i : Nat) (s : List UInt8) (h : E[i]? = some s) (h0 : 0 < i) (h1 : i < E.length - 1) : dirTo E (i + 1) = dirTo E i ++ 47 :: s := by
  unfold dirTo
  rw [Nat.min_eq_left (by omega), Nat.min_eq_left (by omega)]
  have hi : i < E.length := by omega
  have e : E.take (i + 1) = E.take i ++ [s] := by
    rw [← List.take_append_getElem hi]; congr 2
    rw [List.getElem?_eq_getElem hi] at h; simpa using h
  rw [e, joinP_snoc]
  intro e0
  have := congrArg List.length e0
  rw [List.length_take, List.length_nil] at this
  omega
theorem dirTo_last (E : List (List UInt8)) (i : Nat) (h1 : E.length - 1 ≤ i) : dirTo E i = joinP E.dropLast := by
  unfold dirTo
  rw [Nat.min_eq_right h1, List.dropLast_eq_take]
theorem dirTo_len (E : List (List UInt8)) (l : List UInt8) (h : joinP E = l) (i : Nat) : (dirTo E i).length ≤ l.length := by
  subst h
  unfold dirTo
  generalize min i (E.length - 1) = k
  have e := List.take_append_drop k E
  by_cases h1 : E.take k = []
  · rw [h1, joinP_nil]; simp
  · by_cases h2 : E.drop k = []
    · rw [h2, List.append_nil] at e; rw [e]; exact Nat.le_refl _
    · have : joinP E = joinP (E.take k) ++ 47 :: joinP (E.drop k) := by
        conv => lhs; rw [← e]
        generalize E.take k = ps at h1
        generalize E.drop k = qs at h2
        induction ps with
        | nil => exact absurd rfl h1
        | cons a ps ih =>
          by_cases hp : ps = []
          · subst hp; rw [joinP_one]; exact joinP_cons a qs h2
          · rw [List.cons_append, joinP_cons a (ps ++ qs) (by simp [hp]), ih hp, joinP_cons a ps hp]; simp
      rw [this, List.length_append]; omega
theorem cut_dir (l : List UInt8) : (cutLast l).1 = joinP (Lib.Pa.els l).dropLast := by
  obtain ⟨qs, s, h1, h2⟩ := els_cut l
  rw [h2, h1]; simp
end Go.Proofs.YtilgpaeeleknhaaGreatDoor
end

section
namespace Go.Proofs.YtilgpaeeleknhaaGreatDoor
open Go Go.RowKit
set_option linter.unusedSimpArgs false
set_option linter.unusedVariables false
theorem OwnS.later {w w' : World} {b n : Nat} {D : DataW Unit} (h : OwnS w b n D) (hb : Below w.heap.size w w') : OwnS w' b n D := by
  have hlt := World.ownsMap.lt h
  obtain ⟨es, clock, h1, h2⟩ := h
  exact ⟨es, clock, (hb.block b hlt).trans h1, h2⟩
theorem joinP_mem_len (ps : List (List UInt8)) (s : List UInt8) (h : s ∈ ps) : s.length ≤ (joinP ps).length := by
  induction ps with
  | nil => cases h
  | cons a ps ih =>
    by_cases hp : ps = []
    · subst hp; rw [joinP_one]; simp at h; subst h; exact Nat.le_refl _
    · rw [joinP_cons a ps hp, List.length_append, List.length_cons]
      rcases List.mem_cons.1 h with rfl | h
      · omega
      · have := ih h; omega
theorem seenS_dir {l : List File} {d : List UInt8} (h1 : ((seenS l).lookup d).getD false = true) : (seenS l).lookup d = some true := by
  cases h : (seenS l).lookup d with
  | none => rw [h] at h1; cases h1
  | some b => rw [h] at h1; simp at h1; rw [h1]
theorem wrap_fit (x : Int) (h1 : 0 ≤ x) (h2 : x < 9223372036854775808) : wrap64 x = x := by
  unfold wrap64; omega
theorem size_nil {s : ByteArray} (h : s.toList = []) : s.size = 0 := by
  rw [Lib.toList_data] at h
  have : s.data.toList.length = 0 := by rw [h]; rfl
  rw [Array.length_toList] at this
  exact this
set_option maxRecDepth 1000000 in
set_option maxHeartbeats 8000000 in
theorem treeGood_any (cap : Nat) (A : Option Addr) (fs : List File) (w : World) (hA : FilesR w w.heap.size A fs) (hl : fs.length ≤ 2147483647) (hcap : fs.length ≤ cap) (hf : ∀ f ∈ fs, FitF f) :
    Calls Tryz.prog 7 #[.slice A fs.length cap, .bool true] w fun e w' => BoolR e (fun r => (r = true → TreeG true fs ∧ fs.length ≤ 40 ∧ sumD fs ≤ 60000)) ∧ Below w.heap.size w w' := by
  have hmm := @run_makeMap Tryz.prog
  have HA := Lib.hid hA; have HF := Lib.hid hf
  clear hA hf
  go_enter Tryz.func7, Tryz.ntmps7
  go_wp2_with (refine atInsert ?_; refine putS0 _ rfl _ _ _ rfl w.heap.size 0 (.map []) [] rfl (World.ownsMap_made _ _ _ _) MapS.nil (by decide) ⟨#[]⟩ true rfl rfl (Nat.zero_le _) ?_; intro w1 D1 hO1 hM1 hg1)
  clear hmm
  have hb1 : Below w.heap.size w w1 := ((Below.refl w.heap.size w).alloc (Nat.le_refl _) _).grown hg1 (by simp) (fun j hj => by cases hj; exact Nat.le_refl _)
  go_loopw [4, 6, 21] (fun rv nv iv wr => ∃ (t n : Nat) (D : DataW Unit), t ≤ fs.length ∧ rv = .bool false ∧ iv = .int .i64 t ∧ nv = .int .i64 n ∧ Hid (sumD (fs.take t) = n) ∧ n ≤ t * 2147483647 ∧ Hid (OwnS wr w.heap.size (t + 1) D) ∧ Hid (MapS D (seenS (fs.take t))) ∧ Hid (TreeG true (fs.take t)) ∧ Below w.heap.size w wr ∧ w.heap.size < wr.heap.size) (fun _ _ iv _ => fs.length - (intOf iv).toNat)
  case atStart => exact ⟨0, 0, D1, Nat.zero_le _, rfl, rfl, rfl, rfl, by omega, hO1, hM1, TreeG.nil true, hb1, World.ownsMap.lt hO1⟩
  case round =>
    obtain ⟨t, n, D, ht, rfl, rfl, rfl, hn, hnb, hO, hM, hT, hb, hws⟩ := hrel
    clear hb1 hg1 hO1 hM1
    by_cases hlt : t < fs.length
    · obtain ⟨x, hx⟩ : ∃ x, fs[t] = x := ⟨_, rfl⟩
      obtain ⟨b, o, rfl, hob, hcells⟩ := HA.out.keep hb (Nat.le_refl _) t hlt
      rw [hx] at hcells
      have htk : fs.take (t + 1) = fs.take t ++ [x] := by rw [← List.take_append_getElem hlt, hx]
      obtain ⟨hfit1, hfit2, hfit3⟩ : FitF x := HF.out x (by rw [← hx]; exact List.getElem_mem hlt)
      have HTK := Lib.hid htk
      obtain ⟨E, hE⟩ : ∃ E, Lib.Pa.els x.path.data.toList = E := ⟨_, rfl⟩
      have hPt : ∀ W : World, Calls Tryz.prog 22 #[.string x.path] W fun e w' => ∃ A co, e = .returned (.slice A E.length co) ∧ w'.ownsRow W.heap.size 9 1 (.slice A E.length co) E.length (E.map SV) ∧ Below W.heap.size W w' := fun W => by rw [← hE]; exact parts_any x.path W hfit1
      have HP := Lib.hid hPt
      have hE1 : 0 < E.length := List.length_pos_iff.2 (by rw [← hE]; exact els_ne _)
      have hE2 : E.length ≤ 2147483648 := by rw [← hE]; have := els_length x.path.data.toList; rw [Array.length_toList] at this; exact Nat.le_trans this (Nat.succ_le_succ hfit1)
      have hEj : joinP E = x.path.data.toList := by rw [← hE]; exact joinP_els _
      have HE := Lib.hid hE; have HEJ := Lib.hid hEj
      clear htk hx hE hPt hEj
      go_wp2_with (first
        | (go_at_call 22; go_must (refine (HP.out _).mono ?_); rintro e w4 ⟨A4, co4, rfl, hO4, hb4⟩)
        | (refine atLoad 37 ?_; go_must (refine wpList_loadFile rfl (.tmp 23) rfl rfl hcells ?_))
        | (refine atStore 37 ?_; go_must (refine wpList_storeNew rfl 37 _ _ rfl _ _ _ _ rfl rfl (by exact info37) (by rfl) (by rfl) ?_)))
      obtain ⟨g4, rfl, hg4a, hg4, hc4⟩ := row_addr hO4 hE1
      have hFile : w4.rangeAt wr.heap.size 0 x.cells := rangeAt_keep (rangeAt_alloc wr x.cells 37) hb4 (by simp)
      have f0 : w4.cell? ⟨wr.heap.size, 0, none⟩ = some (.string x.path) := hFile 0 _ rfl
      have f1 : w4.cell? ⟨wr.heap.size, 1, none⟩ = some (.bool x.dir) := hFile 1 _ rfl
      have f2 : w4.cell? ⟨wr.heap.size, 2, none⟩ = some (.string x.data) := hFile 2 _ rfl
      have f3 : w4.cell? ⟨wr.heap.size, 3, none⟩ = some (.string x.target) := hFile 3 _ rfl
      have hbA : Below wr.heap.size wr w4 := ((Below.refl wr.heap.size wr).alloc (Nat.le_refl _) _).trans (hb4.mono (by simp))
      obtain ⟨sd, hsd⟩ : ∃ s, x.data = s := ⟨_, rfl⟩
      obtain ⟨sg, hsg⟩ : ∃ s, x.target = s := ⟨_, rfl⟩
      rw [hsd] at f2
      rw [hsg] at f3
      have hsd2 : sd.size ≤ 2147483647 := by rw [← hsd]; exact hfit2
      have HSD := Lib.hid hsd; have HSG := Lib.hid hsg
      obtain ⟨dv, hdv⟩ : ∃ d, x.dir = d := ⟨_, rfl⟩
      rw [hdv] at f1
      have HDV := Lib.hid hdv
      have hO' := OwnS.later hO.out hbA
      have HO := Lib.hid hO'
      have hbw4 : Below w.heap.size w w4 := hb.trans (hbA.mono hb.size)
      have hX4 : wr.heap.size < w4.heap.size := World.block_lt_of_cell? _ _ f0
      have HC4 := Lib.hid hc4
      clear hO hO' hFile hO4 hb4 hbA hcells hc4 hdv hsd hsg
      obtain ⟨wo, hwo⟩ : ∃ wo, wo = wr := ⟨_, rfl⟩
      subst hwo
      go_wp2_with (fail)
      go_loopw [4, 10, 30] (fun rv dv iv wr' => ∃ i : Nat, i ≤ E.length ∧ iv = .int .i64 i ∧ dv = .string (ofL (dirTo E i)) ∧ rv = .bool false ∧ Hid (∀ s ∈ E.take i, PlainName s) ∧ wr' = w4) (fun _ _ iv _ => E.length - (intOf iv).toNat)
      case atStart => exact ⟨0, Nat.zero_le _, rfl, by rw [dirTo_zero], rfl, by simp [Hid], rfl⟩
      case round =>
        obtain ⟨i, hi, rfl, rfl, rfl, hno, hwq⟩ := hrel
        have hwq' := hwq.symm
        subst hwq'
        clear hwq
        by_cases hil : i < E.length
        · obtain ⟨s, hs⟩ : ∃ s, E[i]? = some s := ⟨_, List.getElem?_eq_getElem hil⟩
          obtain ⟨st, hst⟩ : ∃ st, ofL s = st := ⟨_, rfl⟩
          have hcs := HC4.out i (SV s) (by rw [List.getElem?_map, hs]; rfl)
          unfold SV at hcs
          rw [hst] at hcs
          have hstl : st.data.toList = s := by rw [← hst]
          have hssz : st.size ≤ 2147483647 := by
            have h1 := joinP_mem_len E s (List.mem_of_getElem? hs)
            rw [HEJ.out, Array.length_toList] at h1
            rw [← hst, size_ofL]; exact Nat.le_trans h1 hfit1
          have htki : E.take (i + 1) = E.take i ++ [s] := by
            rw [← List.take_append_getElem hil]; congr 2
            rw [List.getElem?_eq_getElem hil] at hs; simpa using hs
          have HTI := Lib.hid htki; have HS := Lib.hid hs; have HSL := Lib.hid hstl
          obtain ⟨dt, hdt⟩ : ∃ dt, ofL (dirTo E i) = dt := ⟨_, rfl⟩
          have HDT := Lib.hid hdt
          have hdts : dt.size ≤ 2147483647 := by
            have := dirTo_len E _ HEJ.out i
            rw [Array.length_toList] at this
            rw [← hdt, size_ofL]; exact Nat.le_trans this hfit1
          rw [hdt]
          clear htki hs hst hstl hdt
          go_wp2_with (go_at_call 23; go_must (refine (plainName_any st _ _ hssz).mono ?_); rintro e w5 ⟨⟨r, rfl, hr⟩, rfl⟩; have HR := Lib.hid hr; clear hr)
          all_goals first
            | (go_ret
               exact ⟨BoolR.intro false (fun h => by cases h), hbw4⟩)
            | (go_roundw
               case rel =>
                 refine ⟨i + 1, hil, by simp, ?_, rfl, ?_, by first | rfl | trivial⟩
                 · congr 1
                   apply ba_ext
                   rw [← HDT.out]
                   by_cases hlast : i < E.length - 1
                   · by_cases h0 : i = 0
                     · subst h0
                       rw [show ∀ l, (ofL l).data.toList = l from fun l => rfl, dirTo_first E s HS.out (by omega)]
                       first
                         | (exfalso; omega)
                         | simp [dirTo_zero, HSL.out]
                     · rw [show ∀ l, (ofL l).data.toList = l from fun l => rfl, dirTo_next E i s HS.out (by omega) hlast]
                       first
                         | (exfalso; omega)
                         | simp [HSL.out]
                   · rw [show ∀ l, (ofL l).data.toList = l from fun l => rfl, dirTo_last E (i + 1) (by omega)]
                     first
                       | (exfalso; omega)
                       | simp [dirTo_last E i (by omega)]
                 · unfold Hid; rw [HTI.out]
                   intro y hy
                   rcases List.mem_append.1 hy with h | h
                   · exact hno.out y h
                   · rw [List.mem_singleton] at h; subst h
                     rw [← HSL.out]; exact HR.out (by simp_all)
               case measure => simp [intOf]; omega)
        · have hte : i = E.length := by omega
          subst hte
          have hdl := dirTo_last E E.length (by omega)
          have hdirs := cut_dir x.path.data.toList
          rw [HE.out, ← hdl] at hdirs
          obtain ⟨dt, hdt⟩ : ∃ dt, ofL (dirTo E E.length) = dt := ⟨_, rfl⟩
          have hdts : dt.size ≤ maxLen := by
            rw [← hdt, size_ofL]
            have := dirTo_len E _ HEJ.out E.length
            rw [Array.length_toList] at this
            exact Nat.le_trans (Nat.le_trans this hfit1) (by decide)
          have hdtl : dt.data.toList = (cutLast x.path.data.toList).1 := by rw [← hdt, hdirs]
          have hps : x.path.size ≤ maxLen := Nat.le_trans hfit1 (by decide)
          obtain ⟨q1, hq1⟩ : ∃ q, ((seenS (fs.take t)).lookup dt.data.toList).getD false = q := ⟨_, rfl⟩
          obtain ⟨q2, hq2⟩ : ∃ q, ((seenS (fs.take t)).lookup dt.data.toList).isSome = q := ⟨_, rfl⟩
          obtain ⟨q3, hq3⟩ : ∃ q, ((seenS (fs.take t)).lookup x.path.data.toList).getD false = q := ⟨_, rfl⟩
          obtain ⟨q4, hq4⟩ : ∃ q, ((seenS (fs.take t)).lookup x.path.data.toList).isSome = q := ⟨_, rfl⟩
          have HQ1 := Lib.hid hq1; have HQ2 := Lib.hid hq2; have HQ3 := Lib.hid hq3; have HQ4 := Lib.hid hq4
          have HDL := Lib.hid hdtl; have HDS := Lib.hid hdts; have HPS := Lib.hid hps
          rw [hdt]
          clear hq1 hq2 hq3 hq4 hdtl hdts hdt hdl hdirs hps
          go_upto_region 22 with (first
            | (refine atLookup ?_; refine lookS_ok _ rfl (.tmp 73) (.tmp 74) rfl w.heap.size (t + 1) D (seenS (fs.take t)) rfl HO.out hM.out dt rfl HDS.out ?_; rw [HQ1.out, HQ2.out])
            | (refine atLookup ?_; refine lookS_ok _ rfl (.tmp 90) (.tmp 92) rfl w.heap.size (t + 1) D (seenS (fs.take t)) rfl HO.out hM.out x.path rfl HPS.out ?_; rw [HQ3.out, HQ4.out]))
          · go_ret
            exact ⟨BoolR.intro false (fun h => by cases h), hbw4⟩
          · cases q4 with
            | true =>
              go_wp2_with (fail)
              go_ret
              exact ⟨BoolR.intro false (fun h => by cases h), hbw4⟩
            | false =>
              cases dv with
              | true =>
                by_cases hs1 : sd.toList = []
                · by_cases hs2 : sg.toList = []
                  · skip
                    go_upto_region 24 with (fail)
                    go_upto_region 25 with (refine atMapUpdate ?_; refine putS _ rfl (.tmp 130) (.tmp 132) (.tmp 134) rfl w.heap.size (t + 1) D (seenS (fs.take t)) rfl HO.out hM.out (by omega) x.path _ rfl rfl HPS.out ?_; intro w6 D6 hO6 hM6 hg6)
                    have f2' : w6.cell? ⟨wo.heap.size, 2, none⟩ = some (.string sd) := by
                      have e := hg6.block wo.heap.size hX4 (by intro h; injection h with h; omega)
                      have e2 : w6.cell? ⟨wo.heap.size, 2, none⟩ = w4.cell? ⟨wo.heap.size, 2, none⟩ := by simp only [World.cell?, e]
                      exact e2.trans f2
                    go_wp2_with (fail)
                    go_roundw
                    case rel =>
                      refine ⟨t + 1, n + sd.size, D6, hlt, rfl, by simp, ?_, ?_, ?_, hO6, ?_, ?_, hbw4.grown hg6 hbw4.size (fun j hj => by cases hj; exact Nat.le_refl _), Nat.lt_of_lt_of_le (Nat.lt_of_lt_of_le hws (Nat.le_of_lt hX4)) hg6.size⟩
                      · first | rfl | (congr 1; done) | (congr 1; rw [wrap_fit _ (by omega) (by omega)]; omega)
                      · unfold Hid; rw [HTK.out, sumD_snoc, hn.out, HSD.out]
                      · rw [HSD.out] at hfit2; omega
                      · unfold Hid; rw [HTK.out, seenS_snoc, show x.dir = _ from HDV.out]; exact hM6
                      · unfold Hid; rw [HTK.out]
                        have hno := hno.out
                        rw [List.take_length] at hno
                        refine TreeG.snoc hT.out (fun s hs => ?_) ?_ ?_ ?_ ?_ ?_
                        · rw [show Lib.Pa.els x.p = E from HE.out] at hs
                          unfold okPart; rw [if_pos rfl]; exact hno s hs
                        · rw [← HDL.out]; exact seenS_dir (by rw [HQ1.out]; assumption)
                        · exact HQ4.out
                        · rw [show Lib.Pa.els x.p = E from HE.out]; omega
                        · intro _; rw [HSD.out, HSG.out]; exact ⟨size_nil hs1, size_nil hs2⟩
                        · intro hd; rw [HSG.out] at hd; exact absurd (size_nil hs2) hd
                    case measure => simp [intOf]; omega
                  · go_wp2_with (fail)
                    go_ret
                    exact ⟨BoolR.intro false (fun h => by cases h), hbw4⟩
                · go_wp2_with (fail)
                  go_ret
                  exact ⟨BoolR.intro false (fun h => by cases h), hbw4⟩
              | false =>
                by_cases hs2 : sg.toList = []
                · skip
                  go_upto_region 24 with (fail)
                  go_upto_region 25 with (refine atMapUpdate ?_; refine putS _ rfl (.tmp 130) (.tmp 132) (.tmp 134) rfl w.heap.size (t + 1) D (seenS (fs.take t)) rfl HO.out hM.out (by omega) x.path _ rfl rfl HPS.out ?_; intro w6 D6 hO6 hM6 hg6)
                  have f2' : w6.cell? ⟨wo.heap.size, 2, none⟩ = some (.string sd) := by
                    have e := hg6.block wo.heap.size hX4 (by intro h; injection h with h; omega)
                    have e2 : w6.cell? ⟨wo.heap.size, 2, none⟩ = w4.cell? ⟨wo.heap.size, 2, none⟩ := by simp only [World.cell?, e]
                    exact e2.trans f2
                  go_wp2_with (fail)
                  go_roundw
                  case rel =>
                    refine ⟨t + 1, n + sd.size, D6, hlt, rfl, by simp, ?_, ?_, ?_, hO6, ?_, ?_, hbw4.grown hg6 hbw4.size (fun j hj => by cases hj; exact Nat.le_refl _), Nat.lt_of_lt_of_le (Nat.lt_of_lt_of_le hws (Nat.le_of_lt hX4)) hg6.size⟩
                    · first | rfl | (congr 1; done) | (congr 1; rw [wrap_fit _ (by omega) (by omega)]; omega)
                    · unfold Hid; rw [HTK.out, sumD_snoc, hn.out, HSD.out]
                    · rw [HSD.out] at hfit2; omega
                    · unfold Hid; rw [HTK.out, seenS_snoc, show x.dir = _ from HDV.out]; exact hM6
                    · unfold Hid; rw [HTK.out]
                      have hno := hno.out
                      rw [List.take_length] at hno
                      refine TreeG.snoc hT.out (fun s hs => ?_) ?_ ?_ ?_ ?_ ?_
                      · rw [show Lib.Pa.els x.p = E from HE.out] at hs
                        unfold okPart; rw [if_pos rfl]; exact hno s hs
                      · rw [← HDL.out]; exact seenS_dir (by rw [HQ1.out]; assumption)
                      · exact HQ4.out
                      · rw [show Lib.Pa.els x.p = E from HE.out]; omega
                      · intro hd; rw [HDV.out] at hd; cases hd
                      · intro hd; rw [HSG.out] at hd; exact absurd (size_nil hs2) hd
                  case measure => simp [intOf]; omega
                · by_cases hs1 : sd.toList = []
                  · go_wp2_with (fail)
                    all_goals first
                      | (go_ret; exact ⟨BoolR.intro false (fun h => by cases h), hbw4⟩)
                      | (exfalso; simp_all; done)
                  · go_wp2_with (fail)
                    all_goals first
                      | (go_ret; exact ⟨BoolR.intro false (fun h => by cases h), hbw4⟩)
                      | (exfalso; simp_all; done)
          · go_ret
            exact ⟨BoolR.intro false (fun h => by cases h), hbw4⟩
          · go_ret
            exact ⟨BoolR.intro false (fun h => by cases h), hbw4⟩
    · have hte : t = fs.length := by omega
      subst hte
      have hn := hn.out
      rw [List.take_length] at hn
      have HN := Lib.hid hn
      clear hn
      go_wp2_with (fail)
      all_goals
        go_ret
        refine ⟨BoolR.intro _ (fun hr => ?_), hb⟩
        have hT := hT.out
        rw [List.take_length] at hT
        refine ⟨hT, ?_, ?_⟩
        · first | (simp_all; done) | omega
        · rw [HN.out]; first | (simp at hr; omega) | (simp_all; done)
end Go.Proofs.YtilgpaeeleknhaaGreatDoor
end

section
namespace Go.Proofs.YtilgpaeeleknhaaGreatDoor
open Go Go.RowKit
set_option linter.unusedSimpArgs false
set_option linter.unusedVariables false
/-- A file's last name. -/
abbrev File.last (f : File) : List UInt8 := (cutLast f.p).2
/-- The names of the directories that were seen. -/
def dirS (l : List File) : List (List UInt8 × Bool) := l.foldl (fun S f => if f.dir then (f.last, true) :: S else S) []
theorem dirS_snoc (l : List File) (f : File) : dirS (l ++ [f]) = if f.dir then (f.last, true) :: dirS l else dirS l := by simp [dirS, List.foldl_append]
/-- No two directories of one last name. -/
def ApartF (l : List File) : Prop := ∀ i j (hi : i < l.length) (hj : j < l.length), l[i].dir = true → l[j].dir = true → l[i].last = l[j].last → i = j
theorem ApartF.nil : ApartF [] := by intro i j hi; cases hi
theorem dirS_miss (l : List File) (k : List UInt8) (h : ((dirS l).lookup k).getD false = false) : ∀ f ∈ l, f.dir = true → f.last ≠ k := by
  suffices ∀ (m : List File) (S : List (List UInt8 × Bool)), ((m.foldl (fun S f => if f.dir then (f.last, true) :: S else S) S).lookup k).getD false = false → (S.lookup k).getD false = false ∧ ∀ f ∈ m, f.dir = true → f.last ≠ k from (this l [] h).2
  intro m
  induction m with
  | nil => intro S h; exact ⟨h, by simp⟩
  | cons f m ih =>
    intro S h
    simp only [List.foldl_cons] at h
    obtain ⟨h1, h2⟩ := ih _ h
    by_cases hd : f.dir = true
    · rw [if_pos hd] at h1
      by_cases e : k = f.last
      · have : (k == f.last) = true := by simpa using e
        simp [List.lookup, this] at h1
      · have : (k == f.last) = false := by simpa using e
        simp only [List.lookup, this] at h1
        refine ⟨h1, fun g hg hgd => ?_⟩
        rcases List.mem_cons.1 hg with rfl | hg
        · exact fun e2 => e e2.symm
        · exact h2 g hg hgd
    · rw [if_neg hd] at h1
      refine ⟨h1, fun g hg hgd => ?_⟩
      rcases List.mem_cons.1 hg with rfl | hg
      · exact absurd hgd hd
      · exact h2 g hg hgd
theorem ApartF.snoc {l : List File} {f : File} (h : ApartF l) (h1 : f.dir = true → ((dirS l).lookup f.last).getD false = false) : ApartF (l ++ [f]) := by
  intro i j hi hj
  rw [List.length_append, List.length_singleton] at hi hj
  by_cases hil : i < l.length
  · rw [List.getElem_append_left hil]
    by_cases hjl : j < l.length
    · rw [List.getElem_append_left hjl]; exact h i j hil hjl
    · rw [List.getElem_append_right (by omega)]
      intro d1 d2 e
      simp at d2 e
      exact absurd e (dirS_miss l f.last (h1 d2) _ (List.getElem_mem hil) d1)
  · rw [List.getElem_append_right (by omega)]
    by_cases hjl : j < l.length
    · rw [List.getElem_append_left hjl]
      intro d1 d2 e
      simp at d1 e
      exact absurd e.symm (dirS_miss l f.last (h1 d1) _ (List.getElem_mem hjl) d2)
    · intro _ _ _; omega
set_option maxRecDepth 21474836470 in
set_option maxHeartbeats 8000000 in
theorem apartDirs_any (cap : Nat) (A : Option Addr) (fs : List File) (w : World) (hA : FilesR w w.heap.size A fs) (hl : fs.length ≤ 2147483647) (hcap : fs.length ≤ cap) (hf : ∀ f ∈ fs, f.path.size ≤ 2147483647) :
    Calls Tryz.prog 15 #[.slice A fs.length cap] w fun e w' => BoolR e (fun r => (r = true → ApartF fs)) ∧ Below w.heap.size w w' := by
  have hmm := @run_makeMap Tryz.prog
  have HA := Lib.hid hA; have HF := Lib.hid hf
  clear hA hf
  go_enter Tryz.func15, Tryz.ntmps15
  go_wp2_with (fail)
  clear hmm
  go_loopw [11] (fun iv wr => ∃ (t : Nat) (D : DataW Unit), t ≤ fs.length ∧ iv = .int .i64 t ∧ Hid (OwnS wr w.heap.size t D) ∧ Hid (MapS D (dirS (fs.take t))) ∧ Hid (ApartF (fs.take t)) ∧ Below w.heap.size w wr ∧ w.heap.size < wr.heap.size) (fun iv _ => fs.length - (intOf iv).toNat)
  case atStart => exact ⟨0, .map [], Nat.zero_le _, rfl, World.ownsMap_made _ _ _ _, MapS.nil, ApartF.nil, (Below.refl _ _).alloc (Nat.le_refl _) _, by simp⟩
  case round =>
    obtain ⟨t, D, ht, rfl, hO, hM, hT, hb, hws⟩ := hrel
    by_cases hlt : t < fs.length
    · obtain ⟨x, hx⟩ : ∃ x, fs[t] = x := ⟨_, rfl⟩
      obtain ⟨b, o, rfl, hob, hcells⟩ := HA.out.keep hb (Nat.le_refl _) t hlt
      rw [hx] at hcells
      have htk : fs.take (t + 1) = fs.take t ++ [x] := by rw [← List.take_append_getElem hlt, hx]
      have hfit1 : x.path.size ≤ 2147483647 := HF.out x (by rw [← hx]; exact List.getElem_mem hlt)
      have HTK := Lib.hid htk
      obtain ⟨qs, s, hE, hcut⟩ := els_cut x.path.data.toList
      obtain ⟨m, hm⟩ : ∃ m, qs.length = m := ⟨_, rfl⟩
      have hEl : (Lib.Pa.els x.path.data.toList).length = m + 1 := by rw [hE, List.length_append, hm]; rfl
      have hm2 : m ≤ 2147483647 := by have := els_length x.path.data.toList; rw [hEl, Array.length_toList] at this; exact Nat.le_trans (Nat.le_of_succ_le_succ this) hfit1
      have hPt : ∀ W : World, Calls Tryz.prog 22 #[.string x.path] W fun e w' => ∃ g co, e = .returned (.slice (some ⟨g, 0, none⟩) (m + 1 : Nat) co) ∧ w'.cell? ⟨g, m, none⟩ = some (SV s) ∧ Below W.heap.size W w' := fun W => by
        refine (parts_any x.path W (by omega)).mono fun e w' h => ?_
        obtain ⟨A', co, h1, h2, h3⟩ := h
        rw [hEl] at h1 h2
        obtain ⟨g, rfl, _, _, hc⟩ := row_addr h2 (Nat.succ_pos _)
        exact ⟨g, co, h1, hc m (SV s) (by rw [List.getElem?_map, hE, List.getElem?_append_right (by omega), ← hm, Nat.sub_self]; rfl), h3⟩
      have HP := Lib.hid hPt
      obtain ⟨st, hst⟩ : ∃ st, ofL s = st := ⟨_, rfl⟩
      have hlast : st.data.toList = x.last := by rw [← hst]; unfold File.last; rw [show x.p = x.path.data.toList from rfl, hcut]
      have hsts : st.size ≤ maxLen := by
        have h1 := joinP_mem_len (Lib.Pa.els x.path.data.toList) s (by rw [hE]; simp)
        rw [joinP_els, Array.length_toList] at h1
        rw [← hst, size_ofL]; exact Nat.le_trans (Nat.le_trans h1 hfit1) (by decide)
      unfold SV at HP
      rw [hst] at HP
      obtain ⟨q1, hq1⟩ : ∃ q, ((dirS (fs.take t)).lookup st.data.toList).getD false = q := ⟨_, rfl⟩
      have HQ1 := Lib.hid hq1; have HL := Lib.hid hlast; have HSS := Lib.hid hsts
      clear htk hx hE hPt hcut hst hq1 hlast hsts hEl hm
      go_upto_region 8 with (first
        | (go_at_call 22; go_must (refine (HP.out _).mono ?_); rintro e w4 ⟨g4, co4, rfl, hc4, hb4⟩; have hFile : w4.rangeAt wr.heap.size 0 x.cells := rangeAt_keep (rangeAt_alloc wr x.cells 37) hb4 (by simp); have f1 : w4.cell? ⟨wr.heap.size, 1, none⟩ = some (.bool x.dir) := hFile 1 _ rfl; have hX4 : wr.heap.size < w4.heap.size := World.block_lt_of_cell? _ _ f1; have hbA : Below wr.heap.size wr w4 := ((Below.refl wr.heap.size wr).alloc (Nat.le_refl _) _).trans (hb4.mono (by simp)); have HO := Lib.hid (OwnS.later hO.out hbA); have hbw4 : Below w.heap.size w w4 := hb.trans (hbA.mono hb.size); clear hFile hb4 hbA)
        | (refine atLoad 37 ?_; go_must (refine wpList_loadFile rfl (.tmp 13) rfl rfl hcells ?_))
        | (refine atStore 37 ?_; go_must (refine wpList_storeNew rfl 37 _ _ rfl _ _ _ _ rfl rfl (by exact info37) (by rfl) (by rfl) ?_)))
      all_goals (try (go_wp2_with (first
        | (refine atMapUpdate ?_; refine putS _ rfl (.tmp 29) (.tmp 30) (.const (.bool true)) rfl w.heap.size t D (dirS (fs.take t)) rfl HO.out hM.out (by omega) st true rfl rfl HSS.out ?_; intro w6 D6 hO6 hM6 hg6)
        | (refine atLookup ?_; refine lookS _ rfl (.tmp 26) (.tmp 27) rfl w.heap.size t D (dirS (fs.take t)) rfl HO.out hM.out st rfl HSS.out ?_; rw [HQ1.out]))))
      all_goals first
        | (go_ret
           exact ⟨BoolR.intro false (fun h => by cases h), hbw4⟩)
        | (go_roundw
           case rel =>
             refine ⟨t + 1, D6, hlt, by simp, hO6, ?_, ?_, hbw4.grown hg6 hbw4.size (fun j hj => by cases hj; exact Nat.le_refl _), Nat.lt_of_lt_of_le (Nat.lt_of_lt_of_le hws (Nat.le_of_lt hX4)) hg6.size⟩
             · unfold Hid; rw [HTK.out, dirS_snoc, if_pos (by simp_all), ← HL.out]; exact hM6
             · unfold Hid; rw [HTK.out]; exact ApartF.snoc hT.out (fun _ => by rw [← HL.out, HQ1.out]; simp_all)
           case measure => simp [intOf]; omega)
        | (go_roundw
           case rel =>
             refine ⟨t + 1, D, hlt, by simp, World.ownsMap.mono HO.out (Nat.le_succ _), ?_, ?_, hbw4, Nat.lt_of_lt_of_le hws (Nat.le_of_lt hX4)⟩
             · unfold Hid; rw [HTK.out, dirS_snoc, if_neg (by simp_all)]; exact hM.out
             · unfold Hid; rw [HTK.out]; exact ApartF.snoc hT.out (fun h => by simp_all)
           case measure => simp [intOf]; omega)
    · have hte : t = fs.length := by omega
      subst hte
      go_wp2_with (fail)
      go_ret
      have hT := hT.out
      rw [List.take_length] at hT
      exact ⟨BoolR.intro true (fun _ => hT), hb⟩
end Go.Proofs.YtilgpaeeleknhaaGreatDoor
end
