/- A part of the proof of laws.FnIsoRock (see the last text). -/
import Derived.Test.YtilgpaeeleknhaaGreatDoorJr16
set_option linter.unusedSimpArgs false
set_option linter.unusedVariables false
set_option maxRecDepth 1000000
set_option maxHeartbeats 8000000
namespace Go.Proofs.YtilgpaeeleknhaaGreatDoor
open Go Go.RowKit
def pvdShape : List (Nat × Nat) := [(0, 7), (8, 32), (40, 32), (80, 8), (120, 4), (124, 4), (128, 4), (132, 8), (140, 4), (148, 4), (156, 34), (190, 623), (813, 17), (830, 17), (847, 17), (864, 17), (813, 17), (830, 17), (881, 1)]
theorem pvd_shape (vol rec34 : List UInt8) (blk pt li bi : Nat) (hv : vol.length <= 32) (hr : rec34.length = 34) : (pvdLays vol rec34 blk pt li bi).map (fun x => (x.1, x.2.length)) = pvdShape := by
 have e : (vol ++ List.replicate (32 - vol.length) (32 : UInt8)).length = 32 := by rw [List.length_append, List.length_replicate]; omega
 have e1 : (padL [] 32).length = 32 := by rw [padL, List.length_append, List.length_replicate]; rfl
 have e2 : (padL [] 623).length = 623 := by rw [padL, List.length_append, List.length_replicate]; rfl
 simp only [pvdLays, List.map_cons, List.map_nil, e, e1, e2, hr]
 rfl
theorem pvd_fit (vol rec34 : List UInt8) (blk pt li bi : Nat) (hv : vol.length <= 32) (hr : rec34.length = 34) (y : Nat × List UInt8) (hy : y ∈ pvdLays vol rec34 blk pt li bi) : y.1 + y.2.length <= 2048 := by
 have h : ∀ z ∈ pvdShape, z.1 + z.2 <= 2048 := by decide
 have hm := List.mem_map_of_mem (f := fun x : Nat × List UInt8 => (x.1, x.2.length)) hy
 rw [pvd_shape vol rec34 blk pt li bi hv hr] at hm
 exact h _ hm
theorem pvdB_length (vol rec34 : List UInt8) (blk pt li bi : Nat) (hv : vol.length <= 32) (hr : rec34.length = 34) : (pvdB vol rec34 blk pt li bi).length = 2048 := by
 unfold pvdB
 rw [layB_length _ _ (fun x hx => by rw [List.length_replicate]; exact pvd_fit vol rec34 blk pt li bi hv hr x hx), List.length_replicate]
theorem pvd_at (vol rec34 : List UInt8) (blk pt li bi : Nat) (hv : vol.length <= 32) (hr : rec34.length = 34) (k n off : Nat) (x : Nat × List UInt8) (hx : (pvdLays vol rec34 blk pt li bi)[k]? = some x) (hn : x.2.length = n) (ho : x.1 = off) (hd : ∀ z ∈ pvdShape.drop (k + 1), z.1 + z.2 <= off \/ off + n <= z.1) : Holds (pvdB vol rec34 blk pt li bi) x.1 x.2 := by
 obtain ⟨hk, e⟩ := List.getElem?_eq_some_iff.1 hx
 have hl : pvdLays vol rec34 blk pt li bi = (pvdLays vol rec34 blk pt li bi).take k ++ x :: (pvdLays vol rec34 blk pt li bi).drop (k + 1) := by
  rw [<- e, <- List.drop_eq_getElem_cons hk, List.take_append_drop]
 unfold pvdB
 rw [hl]
 refine layB_holds _ _ x _ ?_ ?_
 . rw [<- hl]; intro y hy; rw [List.length_replicate]; exact pvd_fit vol rec34 blk pt li bi hv hr y hy
 . intro y hy
   have hm := List.mem_map_of_mem (f := fun x : Nat × List UInt8 => (x.1, x.2.length)) hy
   rw [List.map_drop, pvd_shape vol rec34 blk pt li bi hv hr] at hm
   have := hd _ hm
   rw [hn, ho]
   exact this
structure PvdHas (b vol rec34 : List UInt8) (pt li : Nat) : Prop where
 len : b.length = 2048
 sig : Holds b 0 [1, 67, 68, 48, 48, 49, 1]
 vol : Holds b 40 (vol ++ List.replicate (32 - vol.length) 32)
 blk : Holds b 128 (both16 2048)
 pt : Holds b 132 (both32 pt)
 li : Holds b 140 ((both32 li).take 4)
 root : Holds b 156 rec34
 cre : Holds b 813 tim17
 mod : Holds b 830 tim17
 exp : Holds b 847 nul17
 eff : Holds b 864 nul17
theorem pvd_has (vol rec34 : List UInt8) (blk pt li bi : Nat) (hv : vol.length <= 32) (hr : rec34.length = 34) : PvdHas (pvdB vol rec34 blk pt li bi) vol rec34 pt li := by
 have e : (vol ++ List.replicate (32 - vol.length) (32 : UInt8)).length = 32 := by rw [List.length_append, List.length_replicate]; omega
 refine ⟨pvdB_length _ _ _ _ _ _ hv hr, ?_, ?_, ?_, ?_, ?_, ?_, ?_, ?_, ?_, ?_⟩
 . exact pvd_at vol rec34 blk pt li bi hv hr 0 7 0 _ rfl rfl rfl (by decide)
 . exact pvd_at vol rec34 blk pt li bi hv hr 2 32 40 _ rfl e rfl (by decide)
 . exact pvd_at vol rec34 blk pt li bi hv hr 6 4 128 _ rfl rfl rfl (by decide)
 . exact pvd_at vol rec34 blk pt li bi hv hr 7 8 132 _ rfl rfl rfl (by decide)
 . exact pvd_at vol rec34 blk pt li bi hv hr 8 4 140 _ rfl rfl rfl (by decide)
 . exact pvd_at vol rec34 blk pt li bi hv hr 10 34 156 _ rfl hr rfl (by decide)
 . exact pvd_at vol rec34 blk pt li bi hv hr 16 17 813 _ rfl rfl rfl (by decide)
 . exact pvd_at vol rec34 blk pt li bi hv hr 17 17 830 _ rfl rfl rfl (by decide)
 . exact pvd_at vol rec34 blk pt li bi hv hr 14 17 847 _ rfl rfl rfl (by decide)
 . exact pvd_at vol rec34 blk pt li bi hv hr 15 17 864 _ rfl rfl rfl (by decide)
end Go.Proofs.YtilgpaeeleknhaaGreatDoor
