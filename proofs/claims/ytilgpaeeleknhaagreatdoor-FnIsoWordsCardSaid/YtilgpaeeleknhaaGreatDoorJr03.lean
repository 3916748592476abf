/- A part of the proof of laws.FnIsoRock (see the last text). -/
set_option linter.unusedSimpArgs false
set_option linter.unusedVariables false
set_option maxRecDepth 1000000
set_option maxHeartbeats 8000000
section
namespace Go.Proofs.YtilgpaeeleknhaaGreatDoor.Cal
def fy (x : Int) : Int := x - x / 1460 + x / 36524 - x / 146096
def yoe (x : Int) : Int := fy x / 365
def yb (y : Int) : Int := 365 * y + y / 4 - y / 100
def doy (x : Int) : Int := x - yb (yoe x)
theorem fy_mono (a b : Int) (h0 : 0 <= a) (h : a <= b) (hb : b < 146097) : fy a <= fy b := by
 have step : ∀ k : Nat, ∀ c : Int, 0 <= c -> c + k < 146097 -> fy c <= fy (c + k) := by
  intro k
  induction k with
  | zero => intro c _ _; simp
  | succ k ih =>
    intro c hc hk
    have h1 := ih c hc (by omega)
    have h2 : fy (c + k) <= fy (c + (k + 1 : Nat)) := by unfold fy; omega
    omega
 have := step (b - a).toNat a h0 (by omega)
 have e : a + ((b - a).toNat : Int) = b := by omega
 rwa [e] at this
theorem lo_all : ∀ y : Fin 400, y.val = 0 \/ fy (yb y.val - 1) < 365 * y.val := by decide +kernel
theorem hi_all : ∀ y : Fin 400, yb (y.val + 1) + (if y.val = 399 then 1 else 0) <= 146097 /\ (365 * ((y.val : Int) + 1) <= fy (yb y.val + 366) \/ y.val = 399) := by decide +kernel
theorem yoe_lo (x : Int) (h0 : 0 <= x) (h1 : x < 146097) : 0 <= yoe x /\ yoe x <= 399 := by
 unfold yoe fy; omega
theorem doy_bd (x : Int) (h0 : 0 <= x) (h1 : x < 146097) : 0 <= doy x /\ doy x <= 365 := by
 obtain ⟨ha, hb⟩ := yoe_lo x h0 h1
 obtain ⟨y, hy⟩ : ∃ y : Nat, yoe x = y := ⟨(yoe x).toNat, by omega⟩
 have hy4 : y < 400 := by omega
 have hlo := lo_all ⟨y, hy4⟩
 have hhi := hi_all ⟨y, hy4⟩
 simp only at hlo hhi
 have hq : 365 * (y : Int) <= fy x /\ fy x < 365 * (y : Int) + 365 := by unfold yoe at hy; omega
 unfold doy
 rw [hy]
 constructor
 . rcases hlo with h | h
   . subst h; simp [yb]; exact h0
   . apply Classical.byContradiction
     intro hc
     have := fy_mono x (yb y - 1) h0 (by omega) (by unfold yb; omega)
     omega
 . rcases hhi with ⟨h, h2 | h2⟩
   . apply Classical.byContradiction
     intro hc
     have := fy_mono (yb y + 366) x (by unfold yb; omega) (by omega) h1
     omega
   . have : yb (399 : Int) = 145731 := by decide
     subst h2
     show x - yb 399 <= 365
     omega
def mp (x : Int) : Int := (5 * doy x + 2) / 153
def date (x : Int) : Int := doy x - (153 * mp x + 2) / 5 + 1
def month (x : Int) : Int := if 12 < mp x + 3 then mp x + 3 - 12 else mp x + 3
def year (e x : Int) : Int := if month x <= 2 then yoe x + e * 400 + 1 else yoe x + e * 400
theorem mp_bd (x : Int) (h0 : 0 <= x) (h1 : x < 146097) : 0 <= mp x /\ mp x <= 11 := by
 have := doy_bd x h0 h1
 unfold mp; omega
theorem date_bd (x : Int) (h0 : 0 <= x) (h1 : x < 146097) : 1 <= date x /\ date x <= 31 := by
 have := doy_bd x h0 h1
 unfold date mp; omega
theorem month_bd (x : Int) (h0 : 0 <= x) (h1 : x < 146097) : 1 <= month x /\ month x <= 12 := by
 have := mp_bd x h0 h1
 unfold month; split <;> omega
end Go.Proofs.YtilgpaeeleknhaaGreatDoor.Cal
end
namespace Go.Proofs.YtilgpaeeleknhaaGreatDoor
section
def u8 (n : Nat) : UInt8 := UInt8.ofNat n
theorem u8_toNat (n : Nat) : (u8 n).toNat = n % 256 := by simp [u8]
def le32 (n : Nat) : List UInt8 := [u8 n, u8 (n / 256), u8 (n / 65536), u8 (n / 16777216)]
def be32 (n : Nat) : List UInt8 := [u8 (n / 16777216), u8 (n / 65536), u8 (n / 256), u8 n]
def both32 (n : Nat) : List UInt8 := le32 n ++ be32 n
def both16 (n : Nat) : List UInt8 := [u8 n, u8 (n / 256), u8 (n / 256), u8 n]
theorem length_both32 (n : Nat) : (both32 n).length = 8 := rfl
theorem length_both16 (n : Nat) : (both16 n).length = 4 := rfl
def b8 (z : Int) : UInt8 := UInt8.ofNat (z % 256).toNat
theorem b8_toNat (z : Int) : ((b8 z).toNat : Int) = z % 256 := by
 unfold b8
 rw [UInt8.toNat_ofNat']
 omega
def isoTimeB (t : Int) : List UInt8 :=
 [b8 (Cal.year ((t / 86400 + 719468) / 146097) ((t / 86400 + 719468) % 146097) - 1900), b8 (Cal.month ((t / 86400 + 719468) % 146097)), b8 (Cal.date ((t / 86400 + 719468) % 146097)),
  b8 (t % 86400 / 3600), b8 (t % 86400 / 60 % 60), b8 (t % 86400 % 60), 0]
theorem length_isoTimeB (t : Int) : (isoTimeB t).length = 7 := rfl
def padEven (l : List UInt8) : List UInt8 := if l.length % 2 = 1 then l ++ [0] else l
def recHead (idlen extent size : Nat) (t : Int) (dir : Bool) : List UInt8 :=
 [0, 0] ++ both32 extent ++ both32 size ++ isoTimeB t ++ [if dir then 2 else 0, 0, 0] ++ both16 1 ++ [u8 idlen]
theorem length_recHead (idlen extent size : Nat) (t : Int) (dir : Bool) : (recHead idlen extent size t dir).length = 33 := rfl
def isoRec (id : List UInt8) (extent size : Nat) (t : Int) (dir : Bool) (su : List UInt8) : List UInt8 :=
 let r := padEven (padEven (recHead id.length extent size t dir ++ id) ++ su)
 r.set 0 (u8 r.length)
abbrev ofL (l : List UInt8) : ByteArray := ⟨l.toArray⟩
def cutAt (l : List UInt8) : Nat -> List UInt8 × List UInt8
 | 0 => ([], l)
 | k + 1 => if l.getD k 0 = 47 then (l.take k, l.drop (k + 1)) else cutAt l k
def cutLast (l : List UInt8) : List UInt8 × List UInt8 := cutAt l l.length
structure File where
 path : ByteArray
 dir : Bool
 data : ByteArray
 target : ByteArray
 perm : Nat
 uid : Nat
 gid : Nat
 time : Int
structure Node where
 f : File
 id : ByteArray
 parent : Nat
 kids : List Nat
 extent : Nat
 size : Nat
 su : List UInt8
 more : List UInt8
 place : Nat
 number : Nat
 level : Nat
end
end Go.Proofs.YtilgpaeeleknhaaGreatDoor
