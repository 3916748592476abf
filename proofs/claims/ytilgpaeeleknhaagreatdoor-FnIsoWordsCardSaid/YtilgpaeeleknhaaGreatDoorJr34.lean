/- A part of the proof of laws.FnIsoRock (see the last text). -/
import Derived.Test.YtilgpaeeleknhaaGreatDoorJr28
import Derived.Test.YtilgpaeeleknhaaGreatDoorJr33
import Derived.Deep.Upon
set_option linter.unusedSimpArgs false
set_option linter.unusedVariables false
set_option maxRecDepth 1000000
set_option maxHeartbeats 8000000
namespace Go.Proofs.YtilgpaeeleknhaaGreatDoor
open Go Go.RowKit
theorem linkGood_nil (w : World) : Calls Tryz.prog 26 #[.string ⟨#[]⟩] w fun e w' => e = .returned (.bool true) /\ w' = w := by
 go_enter Tryz.func26, Tryz.ntmps26
 go_wp2_with (fail)
 go_ret
 exact ⟨rfl, rfl⟩
theorem linkGood_both (s : ByteArray) (w : World) (h1 : s.size <= 2147483647) :
 Calls Tryz.prog 26 #[.string s] w fun e w' => (∃ r, e = .returned (.bool r) /\ (r = true -> LinkG s.data.toList) /\ (r = false -> s.size ≠ 0)) /\ Below w.heap.size w w' := by
 by_cases hz : s.size = 0
 . obtain rfl := ByteArray_empty.1 hz
   refine (linkGood_nil w).mono ?_
   rintro e w' ⟨rfl, rfl⟩
   exact ⟨⟨true, rfl, fun _ => .inl rfl, (fun h => by cases h)⟩, Below.refl _ _⟩
 . refine (linkGood_any s w h1).mono ?_
   rintro e w' ⟨⟨r, rfl, h⟩, hb⟩
   exact ⟨⟨r, rfl, h, fun _ => hz⟩, hb⟩
theorem go_appNothing {o : Oper} {a : Act} {w : World} {K : Act -> World -> Prop} {Q : Exit -> Act -> World -> Prop} {ty e k by' : Nat} (hty : Tryz.prog.underlying ty = some (.slice e)) (hinfo : (Tryz.prog.info? e).map (fun i => (i.zero.map (·.cells.size), i.size, i.bytes)) = some (some k, k, by'))
 (s x : Operand) (ho : o.op = .call { callee := .builtin .append, args := #[s, x], argTypes := #[ty, ty] })
 (m co cx : Nat) (A B : Option Addr) (hs : a.eval s = .slice A m co) (hm : m <= co) (hx : a.eval x = .slice B 0 cx)
 (h : K (a.put o.dst (.slice A m co)) w) : Oper.wp Tryz.prog o a w K Q := by
 obtain ⟨i, z, hi, hz, hzs, hsi, hbe⟩ := infoz hinfo
 have hsrc : Go.Src Tryz.prog i.size ty (.slice B 0 cx) 0 [] w := by
  cases B with
  | none => exact Go.Src.ofNil w hty cx
  | some b => exact Go.Src.ofSlice w hty b 0 cx [] (by simp) (fun j u hu => by simp at hu) (fun u hu => by cases hu)
 have hr := run_append_nothing (P := Tryz.prog) w ty ty o.type e i hty hi A m co hm (.slice B 0 cx) hsrc
 unfold Oper.wp execOp
 simp only [ho, resolve, invoke, builtin, Sem.run_bind, Sem.run_pure, Result.andThen_ok, List.map_toArray, List.map_cons, List.map_nil, hs, hx, hr]
 exact h
theorem filesR_src {w : World} {B b o : Nat} {fs : List File} (h : FilesR w B (some ⟨b, o, none⟩) fs) : ∀ j u, (fcells fs)[j]? = some u -> w.cell? ⟨b, o + j, none⟩ = some u := by
 intro j u hu
 have hj : j < (fcells fs).length := (List.getElem?_eq_some_iff.1 hu).1
 rw [fcells_length] at hj
 have hi : j / 8 < fs.length := by omega
 obtain ⟨b', o', e, _, hr⟩ := h (j / 8) hi
 injection e with e; injection e with e1 e2
 subst e1; subst e2
 have hk : j % 8 < 8 := Nat.mod_lt _ (by decide)
 have := hr (j % 8) u (by rw [<- fcells_get fs (j / 8) hi (j % 8) hk, show j / 8 * 8 + j % 8 = j by omega]; exact hu)
 rw [show o + j / 8 * 8 + j % 8 = o + j by omega] at this
 exact this
theorem info37r : (Tryz.prog.info? 37).map (fun i => (i.zero.map (·.cells.size), i.size, i.bytes)) = some (some 8, 8, 80) := by kernel_rfl
theorem files_cap {w : World} {B g n c : Nat} {fs : List File} (h : FilesW w B g n c fs) : n <= c := by
 rcases h.2.2 with ⟨hv, _⟩ | ⟨g', cap, cur, hv, _, _, hn, _⟩
 . injection hv with hv; cases hv
 . injection hv with _ _ hv
   omega
theorem go_copyFiles {o : Oper} {a : Act} {w : World} {K : Act -> World -> Prop} {Q : Exit -> Act -> World -> Prop} (s x : Operand) (ho : o.op = .call { callee := .builtin .append, args := #[s, x], argTypes := #[22, 22] }) (N n cx b off : Nat) (fs : List File)
 (hA : FilesR w w.heap.size (some ⟨b, off, none⟩) fs) (hn : fs.length = n) (h0 : 0 < n) (hl : n <= 1000) (hN : w.heap.size = N) (hs : a.eval s = .slice (some ⟨N, 0, none⟩) 0 0) (hx : a.eval x = .slice (some ⟨b, off, none⟩) n cx)
 (h : ∀ g c w', FilesW w' w.heap.size g n c fs -> Below w.heap.size w w' -> K (a.put o.dst (.slice (some ⟨g, 0, none⟩) n c)) w') : Oper.wp Tryz.prog o a (w.alloc (.cells #[] 37)) K Q := by
 subst hN
 have hb := (Below.refl w.heap.size w).alloc (Nat.le_refl _) (.cells #[] 37)
 refine go_appRows (B := w.heap.size) Tryz.underlying22 info37r (by decide) s x ho 0 n 0 cx b off _ [] (fcells fs) (by rw [fcells_length, hn]) (fcells_one fs) hs (World.ownsRow_lit w #[] 0 (Nat.le_refl _) (by unfold maxLen; omega) rfl) hx (filesR_src (hA.keep hb (Nat.le_refl _))) (by omega) h0 (by decide) hb.size ?_
 intro g c w' hO hb' _
 rw [Nat.zero_add] at hO ⊢
 exact h g c w' ⟨hn.symm, hO⟩ (hb.trans hb')
def TidyTo (fs us : List File) (t : Nat) : Prop := us.length = fs.length /\ (∀ i (h : i < fs.length) (h' : i < us.length), i < t -> Tidied fs[i] us[i]) /\ ∀ i (h : i < fs.length) (h' : i < us.length), t <= i -> us[i] = fs[i]
theorem TidyTo.start (fs : List File) : TidyTo fs fs 0 := ⟨rfl, fun i _ _ h => absurd h (Nat.not_lt_zero i), fun i _ _ _ => rfl⟩
theorem TidyTo.next {fs us : List File} {t : Nat} (h : TidyTo fs us t) (ht : t < fs.length) (g : File) (hg : Tidied fs[t] g) : TidyTo fs (us.set t g) (t + 1) := by
 obtain ⟨h1, h2, h3⟩ := h
 refine ⟨by rw [List.length_set]; exact h1, fun i hi hi' hlt => ?_, fun i hi hi' hle => ?_⟩
 . rw [List.length_set] at hi'
   by_cases e : i = t
   . subst e; rw [List.getElem_set_self]; exact hg
   . rw [List.getElem_set_ne (fun e' => e e'.symm)]; exact h2 i hi hi' (by omega)
 . rw [List.length_set] at hi'
   rw [List.getElem_set_ne (by omega)]; exact h3 i hi hi' (by omega)
theorem link_a : LinkG [97] := .inr ⟨[97], .inr ⟨rfl, by decide⟩, fun s hs => by
 rw [els_one [97] (by decide), List.mem_singleton] at hs
 subst hs
 exact ⟨by decide, by decide, by decide⟩⟩
theorem tidyT_bd0 (t : Int) : 0 <= tidyT t /\ tidyT t < 4102444800 := by unfold tidyT; omega
theorem tidyT_eq (t : Int) : wrap64 ((IntKind.u64.wrap t).tmod 4102444800) = tidyT t := by
 have e1 : IntKind.u64.wrap t = t % 18446744073709551616 := by
  simp only [IntKind.wrap, IntKind.bits, IntKind.signed, Bool.false_and, Bool.false_eq_true, if_false]; rfl
 have h0 : 0 <= t % 18446744073709551616 := Int.emod_nonneg _ (by decide)
 rw [e1, Int.tmod_eq_emod_of_nonneg h0]
 have hb := tidyT_bd0 t
 show wrap64 (tidyT t) = tidyT t
 exact wrap_fit _ (by omega) (by omega)
theorem rockTree_any (cap : Nat) (A : Option Addr) (fs : List File) (w : World) (hA : FilesR w w.heap.size A fs) (hl : fs.length <= 40) (hcap : fs.length <= cap) (ht : ∀ f ∈ fs, f.target.size <= 200) (hp : ∀ f ∈ fs, f.perm < 4294967296) :
 Calls Tryz.prog 10 #[.slice A fs.length cap] w fun e w' => ∃ A' cap' gs, e = .returned (.slice A' gs.length cap') /\ gs.length <= cap' /\ FilesR w' w'.heap.size A' gs /\ TidyL fs gs /\ Below w.heap.size w w' := by
 by_cases h0 : fs.length = 0
 . obtain rfl : fs = [] := List.eq_nil_of_length_eq_zero h0
   clear hA h0 hl hcap ht hp
   go_enter Tryz.func10, Tryz.ntmps10
   go_wp2_with (at_builtin; refine asList rfl fun KK hKK => ?_; go_must (refine go_appNothing Tryz.underlying22 info37z (.tmp 6) (.tmp 7) rfl 0 0 cap _ A rfl (Nat.le_refl _) rfl ?_); refine hKK _ _ ?_; clear hKK KK)
   refine wp_loop_rounds 1 ?_
   rw [rounds_succ]
   go_wp2
   go_ret
   exact ⟨_, _, [], rfl, Nat.le_refl _, (fun i hi => by cases hi), ⟨rfl, fun i hi => by cases hi⟩, (Below.refl _ _).alloc (Nat.le_refl _) _⟩
 . have hpos : 0 < fs.length := by omega
   obtain ⟨b0, o0, rfl, _, _⟩ := hA 0 hpos
   have HT := Lib.hid ht; have HP := Lib.hid hp; have HA := Lib.hid hA
   obtain ⟨N, hN⟩ : ∃ N, fs.length = N := ⟨_, rfl⟩
   rw [hN] at hl hcap h0 hpos ⊢
   have HN := Lib.hid hN
   clear ht hp hA hN
   go_enter Tryz.func10, Tryz.ntmps10
   go_wp2_with (at_builtin; refine asList rfl fun KK hKK => ?_; go_must (refine go_copyFiles (.tmp 6) (.tmp 7) rfl w.heap.size N cap b0 o0 fs HA.out HN.out hpos (by omega) rfl rfl rfl ?_); intro g c w1 hF1 hb1; refine hKK _ _ ?_; clear hKK KK)
   have HF1 := Lib.hid hF1
   clear hF1
   go_loopw [11] (fun iv wr => ∃ (t : Nat) (us : List File), t <= N /\ iv = .int .i64 t /\ Hid (FilesW wr w.heap.size g N c us) /\ Hid (TidyTo fs us t) /\ Below w.heap.size w wr) (fun iv _ => N - (intOf iv).toNat)
   case atStart => exact ⟨0, fs, Nat.zero_le _, rfl, HF1, TidyTo.start fs, hb1⟩
   case round =>
    obtain ⟨t, us, ht, rfl, hF, hTd, hb⟩ := hrel
    by_cases hlt : t < N
    . have hul : us.length = N := hF.out.1.symm
      obtain ⟨x, hx⟩ : ∃ x, us[t] = x := ⟨_, rfl⟩
      have c7 := hF.out.cell t (by omega) 7 _ (by rw [hx]; rfl)
      have f7 := hF.out.frozen (t * 8 + 7)
      have HX := Lib.hid hx
      clear hx
      go_upto_region 7 with (fail)
      refine genW (F := fun W => FilesW W w.heap.size g N c (us.set t { x with time := tidyT x.time }) /\ Below w.heap.size w W) ⟨by rw [tidyT_eq]; exact hF.out.set t (by omega) 7 (by decide) _ _ (by rw [HX.out]; rfl), hb.setCell (p := ⟨g, t * 8 + 7, none⟩) hF.out.lt.1 _⟩ (fun w2 h2 => ?_)
      obtain ⟨hF2, hb2⟩ := h2
      have hx2 : (us.set t { x with time := tidyT x.time })[t]'(by rw [List.length_set]; omega) = { x with time := tidyT x.time } := List.getElem_set_self _
      have c4 := hF2.cell t (by rw [List.length_set]; omega) 4 _ (by rw [hx2]; rfl)
      have f4 := hF2.frozen (t * 8 + 4)
      have HF2 := Lib.hid hF2
      have HX2 := Lib.hid hx2
      clear c7 f7 hF2 hx2 hb
      go_upto_region 8 with (fail)
      have hxp : x.perm < 4294967296 := by
       have h1 := hTd.out.2.2 t (by rw [HN.out]; exact hlt) (by omega) (Nat.le_refl _)
       rw [HX.out] at h1
       rw [h1]; exact HP.out _ (List.getElem_mem _)
      have eb : bits .and .u32 (x.perm : Int) 511 = ((x.perm &&& 511 : Nat) : Int) := and_fact x.perm 511 _ hxp (by decide) rfl
      have HXP := Lib.hid eb
      refine genW (F := fun W => FilesW W w.heap.size g N c (us.set t { x with time := tidyT x.time, perm := x.perm &&& 511 }) /\ Below w.heap.size w W) ⟨?_, hb2.setCell (p := ⟨g, t * 8 + 4, none⟩) HF2.out.lt.1 _⟩ (fun w3 h3 => ?_)
      . rw [HXP.out]
        have := HF2.out.set t (by rw [List.length_set]; omega) 4 (by decide) (.int .u32 ((x.perm &&& 511 : Nat) : Int)) { x with time := tidyT x.time, perm := x.perm &&& 511 } (by rw [HX2.out]; rfl)
        rw [List.set_set] at this
        exact this
      obtain ⟨hF3, hb3⟩ := h3
      have hx3 : (us.set t { x with time := tidyT x.time, perm := x.perm &&& 511 })[t]'(by rw [List.length_set]; omega) = { x with time := tidyT x.time, perm := x.perm &&& 511 } := List.getElem_set_self _
      have c3 := hF3.cell t (by rw [List.length_set]; omega) 3 _ (by rw [hx3]; rfl)
      have HF3 := Lib.hid hF3
      have HX3 := Lib.hid hx3
      have hxt : x.target.size <= 200 := by
       have h1 := hTd.out.2.2 t (by rw [HN.out]; exact hlt) (by omega) (Nat.le_refl _)
       rw [HX.out] at h1
       rw [h1]; exact HT.out _ (List.getElem_mem _)
      have hto : ∀ y, Tidied x y -> TidyTo fs (us.set t y) (t + 1) := fun y hy => hTd.out.next (by rw [HN.out]; exact hlt) y (by
       have h1 := hTd.out.2.2 t (by rw [HN.out]; exact hlt) (by omega) (Nat.le_refl _)
       rw [HX.out] at h1
       rw [<- h1]; exact hy)
      have HTO := Lib.hid hto
      clear hto
      have HLG := Lib.hid (fun W => linkGood_both x.target W (by omega))
      clear c4 f4 hF3 hx3 hb2 HF2 HX2 eb HXP
      go_upto_region 9 with (first
       | (go_at_call 26; go_must (refine (HLG.out _).mono ?_); rintro e w4 ⟨⟨r, rfl, hr1, hr2⟩, hx4⟩; have HR1 := Lib.hid hr1; have HR2 := Lib.hid hr2; have hb4 := hb3.trans (hx4.mono hb3.size); have HF4 := Lib.hid (HF3.out.later hx4); clear hr1 hr2 hx4))
      . have hr : r = false := by simpa using ‹(!r) = true›
        have f3 := HF4.out.frozen (t * 8 + 3)
        have c5 := HF4.out.cell t (by rw [List.length_set]; omega) 3 _ (by rw [HX3.out]; rfl)
        have hxt2 := HTO.out { x with time := tidyT x.time, perm := x.perm &&& 511, target := ⟨#[97]⟩ } ⟨⟨#[97]⟩, link_a, .inr ⟨rfl, HR2.out hr⟩, rfl⟩
        have HXT2 := Lib.hid hxt2
        clear hxt2
        have hF6 : Hid (FilesW (w4.setCell ⟨g, t * 8 + 3, none⟩ (.string ⟨#[97]⟩)) w.heap.size g N c (us.set t { x with time := tidyT x.time, perm := x.perm &&& 511, target := ⟨#[97]⟩ })) := by
         have := HF4.out.set t (by rw [List.length_set]; omega) 3 (by decide) (.string ⟨#[97]⟩) { x with time := tidyT x.time, perm := x.perm &&& 511, target := ⟨#[97]⟩ } (by rw [HX3.out]; rfl)
         rw [List.set_set] at this
         exact this
        go_wp2_with (fail)
        refine ⟨⟨t + 1, _, hlt, by simp, hF6, HXT2, hb4.setCell (p := ⟨g, t * 8 + 3, none⟩) HF4.out.lt.1 _⟩, by simp [intOf]; omega⟩
      . have hr : r = true := by simpa using ‹(!r) = false›
        have hxt2 := HTO.out { x with time := tidyT x.time, perm := x.perm &&& 511 } ⟨x.target, HR1.out hr, .inl rfl, rfl⟩
        exact ⟨⟨t + 1, _, hlt, by simp, HF4, hxt2, hb4⟩, by simp [intOf]; omega⟩
    . have hte : t = N := by omega
      subst hte
      have HB := Lib.hid hb
      go_wp2
      go_ret
      refine ⟨some ⟨g, 0, none⟩, c, us, ?_, ?_, hF.out.filesR, ⟨hTd.out.1, fun i h h' => hTd.out.2.1 i h h' (by have := HN.out; omega)⟩, hb⟩
      . rw [show us.length = t from hF.out.1.symm]; rfl
      . rw [show us.length = t from hF.out.1.symm]; exact files_cap hF.out
end Go.Proofs.YtilgpaeeleknhaaGreatDoor
