import JvmDerived
import JvmDerived.Pilot.@@N@@Statement
import JvmDerived.Pilot.@@N@@Code
set_option linter.unusedVariables false
set_option linter.unusedSimpArgs false
namespace Jvm.RoadKit
open Sem ClassFile Op Lib Jvm.Stand Jvm.Free Jvm.LawKit
section New
variable {p : Program} {l : Launch} {e : Env} {R : Room} {s : State} {m : MethodId} {args : Array Value} {below : List Frame} {meth : Method} {c : Code} {T : State} {locs : List Loc} {cells slots : Nat}
theorem retI (X : Stand p l e R s m args below meth c T locs cells slots) (hx : p.tables.exec = Jvm.exec) {pc : Nat} {Ls : Array Slot} {z : Int32} {rest : List Value} (hret : meth.sig.returnType = some .int) (hd : decode c.code pc = .ok (.ireturn, 1)) {fs : List Frame}
    (hl : ∀ (f : JFrame) (acts : List Action), f.method = m → f.locked = none → f.entered = [] → (doReturn e (T.setTop f) acts (some (.int z))).1 = T.setFrames fs) : Steps p.tables e below (T.setTop (mkF m pc Ls (.int z :: rest))) (T.setFrames fs) := by
  have hm' : T.vm.method? m = some meth := X.method'
  have hn : narrow .int (.int z) = .int z := rfl
  show Steps p.tables e below (T.setTop { method := m, pc := pc, locals := Ls, stack := _ :: rest, locked := none }) _
  jvm_step X.here [X.here.top, hx, hd, hm', hret, hn]
  first | (intro acts; rw [hl _ acts rfl rfl rfl]) | rw [hl _ _ rfl rfl rfl]
  exact Steps.refl _
end New
end Jvm.RoadKit
namespace Jvm.Pilot.@@N@@
open Jvm Jvm.ClassFile Sem Op Lib Jvm.Free Jvm.Stand Jvm.LawKit Jvm.RoadKit Bundle Jvm.Pilot.@@N@@.Jvm.D
theorem own_nar0 : nar .boolean (0 : Int32) = (0 : Int32) := rfl
theorem own_nar1 : nar .boolean (1 : Int32) = (1 : Int32) := rfl
def ushI (x k : Int32) : Int32 := (x.toUInt32 >>> (k &&& 31).toUInt32).toInt32
def nB1 (x : Int32) : Int32 := if x < 65536 then 31 else 31 + (-16 : Int32)
def nX1 (x : Int32) : Int32 := if x < 65536 then x else ushI x 16
def nB2 (x : Int32) : Int32 := if nX1 x < 256 then nB1 x else nB1 x + (-8 : Int32)
def nX2 (x : Int32) : Int32 := if nX1 x < 256 then nX1 x else ushI (nX1 x) 8
def nB3 (x : Int32) : Int32 := if nX2 x < 16 then nB2 x else nB2 x + (-4 : Int32)
def nX3 (x : Int32) : Int32 := if nX2 x < 16 then nX2 x else ushI (nX2 x) 4
def nB4 (x : Int32) : Int32 := if nX3 x < 4 then nB3 x else nB3 x + (-2 : Int32)
def nX4 (x : Int32) : Int32 := if nX3 x < 4 then nX3 x else ushI (nX3 x) 2
def nlzI (x : Int32) : Int32 := if (0 : Int32) < x then nB4 x - ushI (nX4 x) 1 else if x = 0 then 32 else 0
def hiW (q : Int64) : Int32 := ((q.toUInt64 >>> ((32 : Int32) &&& 0x3f).toInt64.toUInt64).toInt64).toInt32
def nlzL (q : Int64) : Int32 := if hiW q = 0 then 32 + nlzI q.toInt32 else nlzI (hiW q)
def lg2 (q : Int64) : Int32 := 63 - nlzL q
def topW (q : Int64) : Int64 := ((q <<< ((4 : Int32) &&& 0x3f).toInt64).toUInt64 >>> (lg2 q &&& 0x3f).toInt64.toUInt64).toInt64
def bandF (q : Int64) : Int32 := lg2 q * 16 + (topW q).toInt32 - 16
def clsF (q : Int64) : Int32 := if q < 8192 then (q / (8 : Int64)).toInt32 else 1024 + bandF q - bandF 8192
def kF (b : Int32) : Int32 := 1 + ((b &&& (2147483647 : Int32)) - ((b &&& (2147483647 : Int32)) / (1023 : Int32)) * (1023 : Int32))
def pF (c : Int32) : Int32 := 13 + ((c &&& (2147483647 : Int32)) - ((c &&& (2147483647 : Int32)) / (19 : Int32)) * (19 : Int32))
def mF (b : Int32) : Int32 := b &&& (15 : Int32)
def lowF (c : Int32) (d : Int64) : Int64 := (d &&& (((1 : Int64) <<< ((pF c - (4 : Int32)) &&& 0x3f).toInt64) - (1 : Int64))) &&& (-8 : Int64)
def sizeF (b c : Int32) (d : Int64) : Int64 := (((16 : Int64) + (mF b).toInt64) <<< ((pF c - (4 : Int32)) &&& 0x3f).toInt64) ||| lowF c d
def lawF (s b c : Int32) (d : Int64) : Int32 := if (s &&& (1 : Int32)) = 0 then (if clsF ((8 : Int64) * (kF b).toInt64) = kF b then 1 else 0) else if clsF (sizeF b c d) = (1024 + (pF c - 13) * 16) + mF b then 1 else 0
theorem ush_c {x : Int32} (k : Int32) {n : Nat} (hk : k.toBitVec.toNat % 32 = n) (h0 : 0 < n) (hx : 0 ≤ x.toInt) : (ushI x k).toInt = x.toInt / (2 ^ n : Nat) := by
  have h := c_iushr x k n hk h0
  have r := rng32 x
  rw [Int.emod_eq_of_lt hx (by omega)] at h
  exact h
theorem lit {x : Int32} {n : Nat} {k : Int} (h : x.toInt < (2 ^ n : Nat)) (hk : ((2 ^ n : Nat) : Int) = k) : x.toInt < k := hk ▸ h
theorem lt32 {x y : Int32} {k : Int} (hy : y.toInt = k) : x < y ↔ x.toInt < k := by rw [Int32.lt_iff_toInt_lt, hy]
theorem stepX {x t k : Int32} {T : Int} {n : Nat} (ht : t.toInt = T) (hk : k.toBitVec.toNat % 32 = n) (h0 : 0 < n) (hx : 0 ≤ x.toInt) :
    (x.toInt < T ∧ (if x < t then x else ushI x k) = x) ∨ (T ≤ x.toInt ∧ (if x < t then x else ushI x k).toInt = x.toInt / (2 ^ n : Nat)) := by
  by_cases q : x < t
  · exact Or.inl ⟨(lt32 ht).mp q, if_pos q⟩
  · rw [if_neg q]; exact Or.inr ⟨by rw [lt32 ht] at q; omega, ush_c k hk h0 hx⟩
theorem stage {x t k b d : Int32} {T : Int} {n : Nat} (ht : t.toInt = T) (hk : k.toBitVec.toNat % 32 = n) (h0 : 0 < n) (hd : d.toInt = -n) (hx : 0 < x.toInt) (hT : ((2 ^ n : Nat) : Int) = T) (hb : n ≤ b.toInt) :
    ∃ w : Nat, (w = 0 ∧ x.toInt = (if x < t then x else ushI x k).toInt ∨ w = n ∧ (if x < t then x else ushI x k).toInt = x.toInt / ((2 ^ n : Nat) : Int)) ∧ (if x < t then b else b + d).toInt = b.toInt - w ∧ 0 < (if x < t then x else ushI x k).toInt ∧ (x.toInt < T * T → (if x < t then x else ushI x k).toInt < T) := by
  by_cases q : x < t
  · rw [if_pos q, if_pos q]
    exact ⟨0, Or.inl ⟨rfl, rfl⟩, by omega, hx, fun _ => (lt32 ht).mp q⟩
  · rw [if_neg q, if_neg q]
    have e := ush_c (x := x) k hk h0 (by omega)
    rw [lt32 ht] at q
    have hp : (0 : Int) < T := by rw [← hT]; exact_mod_cast Nat.two_pow_pos n
    refine ⟨n, Or.inr ⟨rfl, e⟩, ?_, ?_, fun h => ?_⟩
    · have c := c_iadd b d; have r := rng32 (b + d); have r' := rng32 b; omega
    · rw [e, hT]; exact (Int.le_ediv_iff_mul_le hp).mpr (by omega)
    · rw [e, hT]; exact (Int.ediv_lt_iff_lt_mul hp).mpr h
theorem up {X Y : Int} {a w : Nat} (h1 : ((2 ^ a : Nat) : Int) ≤ Y) (h2 : Y < ((2 ^ (a + 1) : Nat) : Int)) (e : Y = X / ((2 ^ w : Nat) : Int)) : ((2 ^ (a + w) : Nat) : Int) ≤ X ∧ X < ((2 ^ (a + w + 1) : Nat) : Int) := by
  have hw : (0 : Int) < ((2 ^ w : Nat) : Int) := by exact_mod_cast Nat.two_pow_pos w
  subst e
  rw [show a + w + 1 = (a + 1) + w by omega, Nat.pow_add, Nat.pow_add, Int.natCast_mul, Int.natCast_mul]
  exact ⟨(Int.le_ediv_iff_mul_le hw).mp h1, (Int.ediv_lt_iff_lt_mul hw).mp h2⟩
theorem nlzI_spec (x : Int32) (hx : 0 < x.toInt) : ∃ k : Nat, k ≤ 30 ∧ (2 ^ k : Nat) ≤ x.toInt ∧ x.toInt < (2 ^ (k + 1) : Nat) ∧ (nlzI x).toInt = 31 - k := by
  have r := (rng32 x).2
  have h0 : nlzI x = nB4 x - ushI (nX4 x) 1 := if_pos ((by rw [Int32.lt_iff_toInt_lt]; exact hx))
  obtain ⟨w1, g1, e1, p1, q1⟩ := stage (x := x) (t := 65536) (T := 65536) (k := 16) (b := 31) (d := -16) (n := 16) rfl (by decide) (by decide) rfl hx rfl (by decide)
  change (w1 = 0 ∧ x.toInt = (nX1 x).toInt ∨ w1 = 16 ∧ (nX1 x).toInt = x.toInt / ((2 ^ 16 : Nat) : Int)) at g1
  change (nB1 x).toInt = (31 : Int) - w1 at e1
  change 0 < (nX1 x).toInt at p1
  have q1 : (nX1 x).toInt < 65536 := q1 (by omega)
  have l1 : w1 ≤ 16 := by rcases g1 with ⟨rfl, -⟩ | ⟨rfl, -⟩ <;> decide
  obtain ⟨w2, g2, e2, p2, q2⟩ := stage (x := nX1 x) (t := 256) (T := 256) (k := 8) (b := nB1 x) (d := -8) (n := 8) rfl (by decide) (by decide) rfl p1 rfl (by clear g1 q1; omega)
  change (w2 = 0 ∧ (nX1 x).toInt = (nX2 x).toInt ∨ w2 = 8 ∧ (nX2 x).toInt = (nX1 x).toInt / ((2 ^ 8 : Nat) : Int)) at g2
  change (nB2 x).toInt = (nB1 x).toInt - w2 at e2
  change 0 < (nX2 x).toInt at p2
  have q2 : (nX2 x).toInt < 256 := q2 (by omega)
  have l2 : w2 ≤ 8 := by rcases g2 with ⟨rfl, -⟩ | ⟨rfl, -⟩ <;> decide
  obtain ⟨w3, g3, e3, p3, q3⟩ := stage (x := nX2 x) (t := 16) (T := 16) (k := 4) (b := nB2 x) (d := -4) (n := 4) rfl (by decide) (by decide) rfl p2 rfl (by clear g1 g2 q1 q2; omega)
  change (w3 = 0 ∧ (nX2 x).toInt = (nX3 x).toInt ∨ w3 = 4 ∧ (nX3 x).toInt = (nX2 x).toInt / ((2 ^ 4 : Nat) : Int)) at g3
  change (nB3 x).toInt = (nB2 x).toInt - w3 at e3
  change 0 < (nX3 x).toInt at p3
  have q3 : (nX3 x).toInt < 16 := q3 (by omega)
  have l3 : w3 ≤ 4 := by rcases g3 with ⟨rfl, -⟩ | ⟨rfl, -⟩ <;> decide
  obtain ⟨w4, g4, e4, p4, q4⟩ := stage (x := nX3 x) (t := 4) (T := 4) (k := 2) (b := nB3 x) (d := -2) (n := 2) rfl (by decide) (by decide) rfl p3 rfl (by clear g1 g2 g3 q1 q2 q3; omega)
  change (w4 = 0 ∧ (nX3 x).toInt = (nX4 x).toInt ∨ w4 = 2 ∧ (nX4 x).toInt = (nX3 x).toInt / ((2 ^ 2 : Nat) : Int)) at g4
  change (nB4 x).toInt = (nB3 x).toInt - w4 at e4
  change 0 < (nX4 x).toInt at p4
  have q4 : (nX4 x).toInt < 4 := q4 (by omega)
  have l4 : w4 ≤ 2 := by rcases g4 with ⟨rfl, -⟩ | ⟨rfl, -⟩ <;> decide
  have u := ush_c (x := nX4 x) 1 (n := 1) (by decide) (by decide) (by omega)
  have g5 : ∃ w5 : Nat, (w5 = 0 ∧ (nX4 x).toInt = 1 ∨ w5 = 1 ∧ 2 ≤ (nX4 x).toInt) ∧ (ushI (nX4 x) 1).toInt = w5 := by
    clear g1 g2 g3 g4
    by_cases q : (nX4 x).toInt = 1
    · exact ⟨0, Or.inl ⟨rfl, q⟩, by rw [u, q]; rfl⟩
    · exact ⟨1, Or.inr ⟨rfl, by omega⟩, by rw [u]; omega⟩
  obtain ⟨w5, g5, e5⟩ := g5
  have l5 : w5 ≤ 1 := by rcases g5 with ⟨rfl, -⟩ | ⟨rfl, -⟩ <;> decide
  have c := c_isub (nB4 x) (ushI (nX4 x) 1)
  have rr := rng32 (nB4 x - ushI (nX4 x) 1)
  rw [h0]
  generalize (nB4 x - ushI (nX4 x) 1).toInt = R at *
  rw [e5] at c
  have eR : R = 31 - (w5 + w4 + w3 + w2 + w1 : Nat) := by clear g1 g2 g3 g4 g5 q1 q2 q3 q4 u; omega
  generalize (nX1 x).toInt = X1 at *
  generalize (nX2 x).toInt = X2 at *
  generalize (nX3 x).toInt = X3 at *
  generalize (nX4 x).toInt = X4 at *
  generalize x.toInt = X at *
  have k5 : ((2 ^ w5 : Nat) : Int) ≤ X4 ∧ X4 < ((2 ^ (w5 + 1) : Nat) : Int) := by
    rcases g5 with ⟨rfl, g5⟩ | ⟨rfl, g5⟩ <;> simp only [Nat.reduceAdd, Nat.reducePow] <;> omega
  have k4 : ((2 ^ (w5 + w4) : Nat) : Int) ≤ X3 ∧ X3 < ((2 ^ (w5 + w4 + 1) : Nat) : Int) := by
    rcases g4 with ⟨rfl, g4⟩ | ⟨rfl, g4⟩
    · rw [g4]; exact k5
    · exact up k5.1 k5.2 g4
  have k3 : ((2 ^ (w5 + w4 + w3) : Nat) : Int) ≤ X2 ∧ X2 < ((2 ^ (w5 + w4 + w3 + 1) : Nat) : Int) := by
    rcases g3 with ⟨rfl, g3⟩ | ⟨rfl, g3⟩
    · rw [g3]; exact k4
    · exact up k4.1 k4.2 g3
  have k2 : ((2 ^ (w5 + w4 + w3 + w2) : Nat) : Int) ≤ X1 ∧ X1 < ((2 ^ (w5 + w4 + w3 + w2 + 1) : Nat) : Int) := by
    rcases g2 with ⟨rfl, g2⟩ | ⟨rfl, g2⟩
    · rw [g2]; exact k3
    · exact up k3.1 k3.2 g2
  have k1 : ((2 ^ (w5 + w4 + w3 + w2 + w1) : Nat) : Int) ≤ X ∧ X < ((2 ^ (w5 + w4 + w3 + w2 + w1 + 1) : Nat) : Int) := by
    rcases g1 with ⟨rfl, g1⟩ | ⟨rfl, g1⟩
    · rw [g1]; exact k2
    · exact up k2.1 k2.2 g1
  refine ⟨w5 + w4 + w3 + w2 + w1, ?_, k1.1, k1.2, eR⟩
  have k0 := k1.1
  generalize w5 + w4 + w3 + w2 + w1 = W at *
  refine Nat.le_of_not_lt fun h => ?_
  have h2 : 2 ^ 31 ≤ 2 ^ W := Nat.pow_le_pow_right (by decide) h
  have h3 : ((2 ^ 31 : Nat) : Int) ≤ ((2 ^ W : Nat) : Int) := by exact_mod_cast h2
  have h4 : ((2 ^ 31 : Nat) : Int) ≤ X := Int.le_trans h3 k0
  exact absurd (Int.lt_of_le_of_lt h4 r) (by decide)
theorem pow_uniq {X : Int} {k p : Nat} (h1 : ((2 ^ k : Nat) : Int) ≤ X) (h2 : X < ((2 ^ (k + 1) : Nat) : Int)) (h3 : ((2 ^ p : Nat) : Int) ≤ X) (h4 : X < ((2 ^ (p + 1) : Nat) : Int)) : k = p := by
  have a1 : (2 ^ k : Nat) < 2 ^ (p + 1) := by exact_mod_cast Int.lt_of_le_of_lt h1 h4
  have a2 : (2 ^ p : Nat) < 2 ^ (k + 1) := by exact_mod_cast Int.lt_of_le_of_lt h3 h2
  have b1 := (Nat.pow_lt_pow_iff_right (by decide)).mp a1
  have b2 := (Nat.pow_lt_pow_iff_right (by decide)).mp a2
  omega
theorem pow_le {p q : Nat} (h : p ≤ q) : ((2 ^ p : Nat) : Int) ≤ ((2 ^ q : Nat) : Int) := by exact_mod_cast Nat.pow_le_pow_right (by decide) h
theorem lg2_spec (q : Int64) (p : Nat) (hp : p ≤ 31) (h1 : ((2 ^ p : Nat) : Int) ≤ q.toInt) (h2 : q.toInt < ((2 ^ (p + 1) : Nat) : Int)) : (lg2 q).toInt = p := by
  have h3 : q.toInt < 4294967296 := Int.lt_of_lt_of_le h2 (pow_le (q := 32) (by omega))
  have h0 : 0 < q.toInt := Int.lt_of_lt_of_le (by exact_mod_cast Nat.two_pow_pos p) h1
  have hh : hiW q = 0 := by
    apply Int32.toInt_inj.mp
    have a1 := c_lushr q 32 32 (by decide) (by decide)
    have a2 := c_l2i ((q.toUInt64 >>> ((32 : Int32) &&& 0x3f).toInt64.toUInt64).toInt64)
    have a3 := rng32 (hiW q)
    change ((hiW q).toInt - _) % _ = _ at a2
    rw [show (0 : Int32).toInt = 0 from rfl]
    omega
  have hn : nlzL q = 32 + nlzI q.toInt32 := if_pos hh
  have c1 := c_l2i q
  have c2 := rng32 q.toInt32
  have c3 := c_iadd 32 (nlzI q.toInt32)
  have c4 := rng32 (32 + nlzI q.toInt32)
  have c5 := c_isub 63 (32 + nlzI q.toInt32)
  have c6 := rng32 (63 - (32 + nlzI q.toInt32))
  rw [show (32 : Int32).toInt = 32 from rfl] at c3
  rw [show (63 : Int32).toInt = 63 from rfl] at c5
  unfold lg2; rw [hn]
  by_cases hs : q.toInt < 2147483648
  · obtain ⟨k, k1, k2, k3, k4⟩ := nlzI_spec q.toInt32 (by omega)
    have e : q.toInt32.toInt = q.toInt := by omega
    rw [e] at k2 k3
    have := pow_uniq k2 k3 h1 h2
    subst this
    omega
  · have hp' : p = 31 := by
      refine Nat.le_antisymm hp (Nat.le_of_not_lt fun h => hs (Int.lt_of_lt_of_le h2 (pow_le (q := 31) (by omega))))
    have e : nlzI q.toInt32 = 0 := by
      unfold nlzI
      rw [if_neg (by rw [Int32.lt_iff_toInt_lt, show (0 : Int32).toInt = 0 from rfl]; omega), if_neg]
      intro h
      have := congrArg Int32.toInt h
      rw [show (0 : Int32).toInt = 0 from rfl] at this
      omega
    rw [e] at c3 c4 c5 c6 ⊢
    rw [show (0 : Int32).toInt = 0 from rfl] at c3
    omega
theorem nat_of {x : Int32} {k : Nat} (h : x.toInt = k) : x.toBitVec.toNat = k := by
  have h' : x.toBitVec.toInt = k := h
  have := x.toBitVec.isLt
  rw [BitVec.toInt_eq_toNat_cond] at h'
  split at h' <;> omega
theorem bandF_spec (q : Int64) (p : Nat) (hp0 : 0 < p) (hp : p ≤ 31) (h1 : ((2 ^ p : Nat) : Int) ≤ q.toInt) (h2 : q.toInt < ((2 ^ (p + 1) : Nat) : Int)) {m : Int} (hm : m < 32) (h3 : q.toInt * 16 / ((2 ^ p : Nat) : Int) = m) : (bandF q).toInt = p * 16 + m - 16 := by
  have hl := lg2_spec q p hp h1 h2
  have hq : q.toInt < 4294967296 := Int.lt_of_lt_of_le h2 (pow_le (q := 32) (by omega))
  have h0 : 0 < q.toInt := Int.lt_of_lt_of_le (by exact_mod_cast Nat.two_pow_pos p) h1
  have a1 := c_lshl q 4 4 (by decide)
  have r1 := rng64 (q <<< ((4 : Int32) &&& 0x3f).toInt64)
  have e1 : (q <<< ((4 : Int32) &&& 0x3f).toInt64).toInt = q.toInt * 16 := by omega
  have a2 : (topW q).toInt = _ := c_lushr (q <<< ((4 : Int32) &&& 0x3f).toInt64) (lg2 q) p (by rw [nat_of hl]; exact Nat.mod_eq_of_lt (by omega)) hp0
  rw [e1, Int.emod_eq_of_lt (by omega) (by omega), h3] at a2
  have hm0 : 0 ≤ m := by rw [← h3]; exact Int.ediv_nonneg (by omega) (Int.natCast_nonneg _)
  have a3 := c_l2i (topW q)
  have r3 := rng32 (topW q).toInt32
  have a4 := c_imul (lg2 q) 16
  have r4 := rng32 (lg2 q * 16)
  rw [show (16 : Int32).toInt = 16 from rfl, hl] at a4
  have a5 := c_iadd (lg2 q * 16) (topW q).toInt32
  have r5 := rng32 (lg2 q * 16 + (topW q).toInt32)
  have a6 := c_isub (lg2 q * 16 + (topW q).toInt32) 16
  have r6 := rng32 (lg2 q * 16 + (topW q).toInt32 - 16)
  rw [show (16 : Int32).toInt = 16 from rfl] at a6
  unfold bandF
  omega
theorem andL_le (x y : Int64) (h : 0 ≤ x.toInt) : 0 ≤ (x &&& y).toInt ∧ (x &&& y).toInt ≤ x.toInt := by
  have h1 : (x &&& y).toBitVec.toNat ≤ x.toBitVec.toNat := by show (x.toBitVec &&& y.toBitVec).toNat ≤ _; rw [BitVec.toNat_and]; exact Nat.and_le_left
  have h2 := x.toBitVec.isLt
  change 0 ≤ x.toBitVec.toInt at h
  show 0 ≤ (x &&& y).toBitVec.toInt ∧ (x &&& y).toBitVec.toInt ≤ x.toBitVec.toInt
  rw [BitVec.toInt_eq_toNat_cond] at h ⊢; rw [BitVec.toInt_eq_toNat_cond]
  split at h <;> split <;> omega
theorem toNat_of64 {x : Int64} {k : Nat} (h : x.toInt = k) : x.toBitVec.toNat = k := by
  have h' : x.toBitVec.toInt = k := h
  have := x.toBitVec.isLt
  rw [BitVec.toInt_eq_toNat_cond] at h'
  split at h' <;> omega
theorem cls_big (b c : Int32) (d : Int64) : clsF (sizeF b c d) = (1024 + (pF c - 13) * 16) + mF b := by
  have hm : (mF b).toInt = b.toInt % (2 ^ 4 : Nat) := c_mask b 15 4 (by decide) (by decide)
  have hc : (c &&& (2147483647 : Int32)).toInt = c.toInt % (2 ^ 31 : Nat) := c_mask c 2147483647 31 (by decide) (by decide)
  have hp : (pF c).toInt = 13 + (c &&& (2147483647 : Int32)).toInt % 19 := by
    have a1 := (c_irem (c &&& (2147483647 : Int32)) 19 19 rfl).1 (by omega)
    have a2 := c_iadd 13 ((c &&& (2147483647 : Int32)) % 19)
    have r2 := rng32 (13 + ((c &&& (2147483647 : Int32)) % 19))
    rw [show (13 : Int32).toInt = 13 from rfl] at a2
    unfold pF
    rw [irem_eq_mod]
    omega
  obtain ⟨k, hk⟩ : ∃ k : Nat, (pF c - (4 : Int32)).toInt = k ∧ (pF c).toInt = k + 4 ∧ 9 ≤ k ∧ k ≤ 27 := by
    have a1 := c_isub (pF c) 4
    have r1 := rng32 (pF c - 4)
    rw [show (4 : Int32).toInt = 4 from rfl] at a1
    refine ⟨((pF c).toInt - 4).toNat, ?_, ?_, ?_, ?_⟩ <;> omega
  obtain ⟨hk, hpk, hk9, hk27⟩ := hk
  have hkm : (pF c - (4 : Int32)).toBitVec.toNat % 64 = k := by rw [nat_of hk]; exact Nat.mod_eq_of_lt (by omega)
  have hK1 : (512 : Int) ≤ ((2 ^ k : Nat) : Int) := pow_le (p := 9) hk9
  have hK2 : ((2 ^ k : Nat) : Int) ≤ 134217728 := pow_le (q := 27) hk27
  -- low
  have hl : 0 ≤ (lowF c d).toInt ∧ (lowF c d).toInt < ((2 ^ k : Nat) : Int) := by
    have a1 := c_lshl 1 (pF c - (4 : Int32)) k hkm
    have r1 := rng64 ((1 : Int64) <<< ((pF c - (4 : Int32)) &&& 0x3f).toInt64)
    have a2 := c_lsub ((1 : Int64) <<< ((pF c - (4 : Int32)) &&& 0x3f).toInt64) 1
    have r2 := rng64 (((1 : Int64) <<< ((pF c - (4 : Int32)) &&& 0x3f).toInt64) - 1)
    rw [show (1 : Int64).toInt = 1 from rfl] at a1 a2
    have e2 : (((1 : Int64) <<< ((pF c - (4 : Int32)) &&& 0x3f).toInt64) - 1).toInt = (2 ^ k - 1 : Nat) := by
      rw [Int.natCast_sub (Nat.two_pow_pos k)]; omega
    have a3 := c_maskL d (((1 : Int64) <<< ((pF c - (4 : Int32)) &&& 0x3f).toInt64) - 1) k (by omega) (toNat_of64 e2)
    have n3 := Int.emod_nonneg d.toInt (b := ((2 ^ k : Nat) : Int)) (by omega)
    have l3 := Int.emod_lt_of_pos d.toInt (b := ((2 ^ k : Nat) : Int)) (by omega)
    have a4 := andL_le (d &&& (((1 : Int64) <<< ((pF c - (4 : Int32)) &&& 0x3f).toInt64) - 1)) (-8) (by omega)
    exact ⟨a4.1, by have := a4.2; change (lowF c d).toInt ≤ _ at this; omega⟩
  -- size
  have hM : ((16 : Int64) + (mF b).toInt64).toInt = 16 + (mF b).toInt := by
    have a1 := c_ladd 16 (mF b).toInt64
    have r1 := rng64 (16 + (mF b).toInt64)
    rw [show (16 : Int64).toInt = 16 from rfl, c_i2l] at a1
    omega
  have hS : (sizeF b c d).toInt = (16 + (mF b).toInt) * ((2 ^ k : Nat) : Int) + (lowF c d).toInt := by
    have a1 := c_lshl ((16 : Int64) + (mF b).toInt64) (pF c - (4 : Int32)) k hkm
    have r1 := rng64 (((16 : Int64) + (mF b).toInt64) <<< ((pF c - (4 : Int32)) &&& 0x3f).toInt64)
    rw [hM] at a1
    have b1 : 0 ≤ (16 + (mF b).toInt) * ((2 ^ k : Nat) : Int) := Int.mul_nonneg (by omega) (by omega)
    have b2 : (16 + (mF b).toInt) * ((2 ^ k : Nat) : Int) ≤ 32 * 134217728 := Int.mul_le_mul (by omega) hK2 (by omega) (by decide)
    have e1 : (((16 : Int64) + (mF b).toInt64) <<< ((pF c - (4 : Int32)) &&& 0x3f).toInt64).toInt = (16 + (mF b).toInt) * ((2 ^ k : Nat) : Int) := by omega
    have a2 := c_orL (((16 : Int64) + (mF b).toInt64) <<< ((pF c - (4 : Int32)) &&& 0x3f).toInt64) (lowF c d) k (by omega) _ rfl (by rw [e1]; exact Int.mul_emod_left _ _) hl.1 hl.2
    have r2 := rng64 (sizeF b c d)
    change ((sizeF b c d).toInt - _) % _ = _ at a2
    omega
  have hN : ((2 ^ (k + 4) : Nat) : Int) = 16 * ((2 ^ k : Nat) : Int) := by rw [Nat.pow_add, Int.natCast_mul, Int.mul_comm]; rfl
  have hN' : ((2 ^ (k + 4 + 1) : Nat) : Int) = 32 * ((2 ^ k : Nat) : Int) := by rw [Nat.pow_succ, Int.natCast_mul, hN]; omega
  have hm15 : (mF b).toInt ≤ 15 ∧ 0 ≤ (mF b).toInt := by omega
  have m1 : (mF b).toInt * ((2 ^ k : Nat) : Int) ≤ 15 * ((2 ^ k : Nat) : Int) := Int.mul_le_mul_of_nonneg_right hm15.1 (by omega)
  have m0 : 0 ≤ (mF b).toInt * ((2 ^ k : Nat) : Int) := Int.mul_nonneg hm15.2 (by omega)
  rw [Int.add_mul] at hS
  have f1 : ((2 ^ (k + 4) : Nat) : Int) ≤ (sizeF b c d).toInt := by omega
  have f2 : (sizeF b c d).toInt < ((2 ^ (k + 4 + 1) : Nat) : Int) := by omega
  have f3 : (sizeF b c d).toInt * 16 / ((2 ^ (k + 4) : Nat) : Int) = 16 + (mF b).toInt := by
    have hp0 : (0 : Int) < ((2 ^ (k + 4) : Nat) : Int) := by omega
    have e16 : (mF b).toInt * (16 * ((2 ^ k : Nat) : Int)) = 16 * ((mF b).toInt * ((2 ^ k : Nat) : Int)) := Int.mul_left_comm _ _ _
    have u1 : (16 + (mF b).toInt) * ((2 ^ (k + 4) : Nat) : Int) ≤ (sizeF b c d).toInt * 16 := by rw [hN, Int.add_mul]; omega
    have u2 : (sizeF b c d).toInt * 16 < (16 + (mF b).toInt + 1) * ((2 ^ (k + 4) : Nat) : Int) := by rw [Int.add_mul (16 + (mF b).toInt), hN, Int.add_mul]; omega
    refine Int.le_antisymm ?_ ((Int.le_ediv_iff_mul_le hp0).mpr u1)
    have := (Int.ediv_lt_iff_lt_mul hp0).mpr u2
    omega
  have hb := bandF_spec (sizeF b c d) (k + 4) (by omega) (by omega) f1 f2 (by omega) f3
  have h8 := bandF_spec 8192 13 (by decide) (by decide) (by decide) (by decide) (m := 16) (by decide) (by decide)
  have hge : ¬ sizeF b c d < 8192 := by
    rw [Int64.lt_iff_toInt_lt, show (8192 : Int64).toInt = 8192 from rfl]; omega
  unfold clsF
  rw [if_neg hge]
  apply Int32.toInt_inj.mp
  have a1 := c_iadd 1024 (bandF (sizeF b c d))
  have r1 := rng32 (1024 + bandF (sizeF b c d))
  have a2 := c_isub (1024 + bandF (sizeF b c d)) (bandF 8192)
  have r2 := rng32 (1024 + bandF (sizeF b c d) - bandF 8192)
  have a3 := c_isub (pF c) 13
  have r3 := rng32 (pF c - 13)
  have a4 := c_imul (pF c - 13) 16
  have r4 := rng32 ((pF c - 13) * 16)
  have a5 := c_iadd 1024 ((pF c - 13) * 16)
  have r5 := rng32 (1024 + (pF c - 13) * 16)
  have a6 := c_iadd (1024 + (pF c - 13) * 16) (mF b)
  have r6 := rng32 (1024 + (pF c - 13) * 16 + mF b)
  rw [show (1024 : Int32).toInt = 1024 from rfl] at a1 a5
  rw [show (13 : Int32).toInt = 13 from rfl] at a3
  rw [show (16 : Int32).toInt = 16 from rfl] at a4
  clear hS m1 m0 f1 f2 f3 hN hN' hl hM hK1 hK2
  omega
theorem cls_small (b : Int32) : clsF ((8 : Int64) * (kF b).toInt64) = kF b := by
  have hc : (b &&& (2147483647 : Int32)).toInt = b.toInt % (2 ^ 31 : Nat) := c_mask b 2147483647 31 (by decide) (by decide)
  have hk : (kF b).toInt = 1 + (b &&& (2147483647 : Int32)).toInt % 1023 := by
    have a1 := (c_irem (b &&& (2147483647 : Int32)) 1023 1023 rfl).1 (by omega)
    have a2 := c_iadd 1 ((b &&& (2147483647 : Int32)) % 1023)
    have r2 := rng32 (1 + ((b &&& (2147483647 : Int32)) % 1023))
    rw [show (1 : Int32).toInt = 1 from rfl] at a2
    unfold kF
    rw [irem_eq_mod]
    omega
  have a1 := c_lmul 8 (kF b).toInt64
  have r1 := rng64 ((8 : Int64) * (kF b).toInt64)
  rw [c_i2l, show (8 : Int64).toInt = 8 from rfl] at a1
  have e1 : ((8 : Int64) * (kF b).toInt64).toInt = 8 * (kF b).toInt := by omega
  have a2 := (c_ldiv ((8 : Int64) * (kF b).toInt64) 8 8 rfl (by decide)).1 (by omega)
  have a3 := c_l2i ((8 : Int64) * (kF b).toInt64 / 8)
  have r3 := rng32 ((8 : Int64) * (kF b).toInt64 / 8).toInt32
  have r4 := rng32 (kF b)
  unfold clsF
  rw [if_pos (by rw [Int64.lt_iff_toInt_lt, show (8192 : Int64).toInt = 8192 from rfl]; omega)]
  apply Int32.toInt_inj.mp
  omega
theorem lawF_one (s b c : Int32) (d : Int64) : lawF s b c d = 1 := by
  unfold lawF
  rw [if_pos (cls_small b), if_pos (cls_big b c d), ite_self]
theorem d_jdk_33_method_47_0 : decode jdk_33_method_47_code 0 = .ok (.iload_n 0, 1) := by decide +kernel
theorem d_jdk_33_method_47_1 : decode jdk_33_method_47_code 1 = .ok (.ifCond .gt 14, 3) := by decide +kernel
theorem d_jdk_33_method_47_4 : decode jdk_33_method_47_code 4 = .ok (.iload_n 0, 1) := by decide +kernel
theorem d_jdk_33_method_47_5 : decode jdk_33_method_47_code 5 = .ok (.ifCond .ne 8, 3) := by decide +kernel
theorem d_jdk_33_method_47_8 : decode jdk_33_method_47_code 8 = .ok (.bipush 32, 2) := by decide +kernel
theorem d_jdk_33_method_47_10 : decode jdk_33_method_47_code 10 = .ok (.goto 4, 3) := by decide +kernel
theorem d_jdk_33_method_47_13 : decode jdk_33_method_47_code 13 = .ok (.iconst 0, 1) := by decide +kernel
theorem d_jdk_33_method_47_14 : decode jdk_33_method_47_code 14 = .ok (.ireturn, 1) := by decide +kernel
theorem d_jdk_33_method_47_15 : decode jdk_33_method_47_code 15 = .ok (.bipush 31, 2) := by decide +kernel
theorem d_jdk_33_method_47_17 : decode jdk_33_method_47_code 17 = .ok (.istore_n 1, 1) := by decide +kernel
theorem d_jdk_33_method_47_18 : decode jdk_33_method_47_code 18 = .ok (.iload_n 0, 1) := by decide +kernel
theorem d_jdk_33_method_47_19 : decode jdk_33_method_47_code 19 = .ok (.ldc_w 264, 3) := by decide +kernel
theorem d_jdk_33_method_47_22 : decode jdk_33_method_47_code 22 = .ok (.if_icmp .lt 11, 3) := by decide +kernel
theorem d_jdk_33_method_47_25 : decode jdk_33_method_47_code 25 = .ok (.iinc 1 (-16), 3) := by decide +kernel
theorem d_jdk_33_method_47_28 : decode jdk_33_method_47_code 28 = .ok (.iload_n 0, 1) := by decide +kernel
theorem d_jdk_33_method_47_29 : decode jdk_33_method_47_code 29 = .ok (.bipush 16, 2) := by decide +kernel
theorem d_jdk_33_method_47_31 : decode jdk_33_method_47_code 31 = .ok (.iushr, 1) := by decide +kernel
theorem d_jdk_33_method_47_32 : decode jdk_33_method_47_code 32 = .ok (.istore_n 0, 1) := by decide +kernel
theorem d_jdk_33_method_47_33 : decode jdk_33_method_47_code 33 = .ok (.iload_n 0, 1) := by decide +kernel
theorem d_jdk_33_method_47_34 : decode jdk_33_method_47_code 34 = .ok (.sipush 256, 3) := by decide +kernel
theorem d_jdk_33_method_47_37 : decode jdk_33_method_47_code 37 = .ok (.if_icmp .lt 11, 3) := by decide +kernel
theorem d_jdk_33_method_47_40 : decode jdk_33_method_47_code 40 = .ok (.iinc 1 (-8), 3) := by decide +kernel
theorem d_jdk_33_method_47_43 : decode jdk_33_method_47_code 43 = .ok (.iload_n 0, 1) := by decide +kernel
theorem d_jdk_33_method_47_44 : decode jdk_33_method_47_code 44 = .ok (.bipush 8, 2) := by decide +kernel
theorem d_jdk_33_method_47_46 : decode jdk_33_method_47_code 46 = .ok (.iushr, 1) := by decide +kernel
theorem d_jdk_33_method_47_47 : decode jdk_33_method_47_code 47 = .ok (.istore_n 0, 1) := by decide +kernel
theorem d_jdk_33_method_47_48 : decode jdk_33_method_47_code 48 = .ok (.iload_n 0, 1) := by decide +kernel
theorem d_jdk_33_method_47_49 : decode jdk_33_method_47_code 49 = .ok (.bipush 16, 2) := by decide +kernel
theorem d_jdk_33_method_47_51 : decode jdk_33_method_47_code 51 = .ok (.if_icmp .lt 10, 3) := by decide +kernel
theorem d_jdk_33_method_47_54 : decode jdk_33_method_47_code 54 = .ok (.iinc 1 (-4), 3) := by decide +kernel
theorem d_jdk_33_method_47_57 : decode jdk_33_method_47_code 57 = .ok (.iload_n 0, 1) := by decide +kernel
theorem d_jdk_33_method_47_58 : decode jdk_33_method_47_code 58 = .ok (.iconst 4, 1) := by decide +kernel
theorem d_jdk_33_method_47_59 : decode jdk_33_method_47_code 59 = .ok (.iushr, 1) := by decide +kernel
theorem d_jdk_33_method_47_60 : decode jdk_33_method_47_code 60 = .ok (.istore_n 0, 1) := by decide +kernel
theorem d_jdk_33_method_47_61 : decode jdk_33_method_47_code 61 = .ok (.iload_n 0, 1) := by decide +kernel
theorem d_jdk_33_method_47_62 : decode jdk_33_method_47_code 62 = .ok (.iconst 4, 1) := by decide +kernel
theorem d_jdk_33_method_47_63 : decode jdk_33_method_47_code 63 = .ok (.if_icmp .lt 10, 3) := by decide +kernel
theorem d_jdk_33_method_47_66 : decode jdk_33_method_47_code 66 = .ok (.iinc 1 (-2), 3) := by decide +kernel
theorem d_jdk_33_method_47_69 : decode jdk_33_method_47_code 69 = .ok (.iload_n 0, 1) := by decide +kernel
theorem d_jdk_33_method_47_70 : decode jdk_33_method_47_code 70 = .ok (.iconst 2, 1) := by decide +kernel
theorem d_jdk_33_method_47_71 : decode jdk_33_method_47_code 71 = .ok (.iushr, 1) := by decide +kernel
theorem d_jdk_33_method_47_72 : decode jdk_33_method_47_code 72 = .ok (.istore_n 0, 1) := by decide +kernel
theorem d_jdk_33_method_47_73 : decode jdk_33_method_47_code 73 = .ok (.iload_n 1, 1) := by decide +kernel
theorem d_jdk_33_method_47_74 : decode jdk_33_method_47_code 74 = .ok (.iload_n 0, 1) := by decide +kernel
theorem d_jdk_33_method_47_75 : decode jdk_33_method_47_code 75 = .ok (.iconst 1, 1) := by decide +kernel
theorem d_jdk_33_method_47_76 : decode jdk_33_method_47_code 76 = .ok (.iushr, 1) := by decide +kernel
theorem d_jdk_33_method_47_77 : decode jdk_33_method_47_code 77 = .ok (.isub, 1) := by decide +kernel
theorem d_jdk_33_method_47_78 : decode jdk_33_method_47_code 78 = .ok (.ireturn, 1) := by decide +kernel
theorem pn_0 : plainName "java/lang/Integer" = true := by first | (simp [plainName, overriddenIn]; done) | decide +kernel
theorem ef_nlzI (m : MethodId) (xi : Int32) : entryFrame m #[(.int xi)] 2 = mkF m 0 #[.val (.int xi), .unset] [] := by first | (simp [entryFrame, mkF, argsToLocals, Value.category]; done) | rfl
def Q_nlzI (Z : State) (xi : Int32) (h0 : Heap) (n0 : Nat) (v : Option Value) (h : Heap) (L : List Loc) : Prop := v = some (.int (nlzI xi)) ∧ Fr n0 L ∧ h = h0
set_option maxRecDepth 65536 in
set_option maxHeartbeats 40000000 in
theorem rm_nlzI (l : Launch) (Z : State) (a0 : Array Value) (hw : ∀ d ∈ tables_1, d.before a0 Z = true) (ws : List Jvm.Cond) (xi : Int32) (h0 : Heap) (n0 : Nat) (Z0 : n0 ≤ h0.size) :
    MetFree l (⟨"java/lang/Integer", "numberOfLeadingZeros", "(I)I"⟩ : MethodName) (head1 (Jvm.Cond.code (⟨"java/lang/Integer", "numberOfLeadingZeros", "(I)I"⟩ : MethodName) jdk_33_method_47_code 2 (some .int) :: ws) ({ frames := 0, cells := 0, slots := 0, locals := 0 } : Room)) (fun a U => a = #[(.int xi)] ∧ Z.Warmed39 U.vm ∧ U.heap = h0) (fun _ _ _ _ _ => True) (fun _ U o U' => ∃ v L, o = .returned v ∧ Q_nlzI Z xi h0 n0 v U'.heap L ∧ FrameEnd U o U' L ({ frames := 0, cells := 0, slots := 0, locals := 0 } : Room).cells ({ frames := 0, cells := 0, slots := 0, locals := 0 } : Room).slots) := by
  refine MetFree.of_bodySF (plainFor_of_name pn_0) hisR ?_
  intro p e s m args below meth c s₁ Bd hml0 hP hK
  obtain ⟨rfl, hZ, hh⟩ := hP
  have hx := Bd.exec
  have hby := Bd.bytes
  have hml : c.maxLocals = 2 := hml0
  have hown : s.vm.findClass "java/lang/Integer" = some m.cls := findClass_of_methodNamed Bd.named
  have X0 : Stand p l e ({ frames := 0, cells := 0, slots := 0, locals := 0 } : Room) s m #[(.int xi)] below meth c s₁ [] 0 0 := Stand.of_body Bd
  have e0 : s₁.heap = h0 := by rw [← hh, Bd.state]; rfl
  have N0 := Fr.nil n0
  have pre0 : ∀ t, Steps p.tables e below (s₁.setTop (mkF m 0 #[.val (.int xi), .unset] [])) t → Steps p.tables e below (s₁.setTop (entryFrame m #[(.int xi)] 2)) t := fun t k => castTop (ef_nlzI m xi) k
  obtain ⟨fs, hr, hrun, hended, hW, hsame⟩ := X0.leave (v := some (.int (nlzI xi))) (fun h => by rw [Bd.returns] at h; cases h)
  refine ⟨_, _, pre0 _ ?_, hrun, hended, _, _, rfl, ?_, ⟨_, rfl⟩, hW, hsame.mono (by decide) (by decide)⟩
  · show Steps p.tables e below (s₁.setTop (mkF m 0 #[.val (.int xi), .unset] [])) _
    refine XS.iloadN X0.here hx rfl (hb hby d_jdk_33_method_47_0) rfl ?_
    show Steps p.tables e below (s₁.setTop (mkF m 1 #[.val (.int xi), .unset] [(.int xi)])) _
    by_cases h1 : (0 : Int32) < xi
    · refine XS.ifYes X0.here hx rfl (pc0 := 1) (pc' := 15) rfl (hb hby d_jdk_33_method_47_1) rfl ((if0 _ _).trans (tlt h1).2.2.1) (by decide) (by decide) ?_
      show Steps p.tables e below (s₁.setTop (mkF m 15 #[.val (.int xi), .unset] [])) _
      refine XS.bipush X0.here hx rfl (hb hby d_jdk_33_method_47_15) ?_
      show Steps p.tables e below (s₁.setTop (mkF m 17 #[.val (.int xi), .unset] [(.int (31 : Int32))])) _
      refine XS.istoreN X0.here hx rfl (hb hby d_jdk_33_method_47_17) rfl (l' := #[.val (.int xi), .val (.int (31 : Int32))]) rfl ?_
      show Steps p.tables e below (s₁.setTop (mkF m 18 #[.val (.int xi), .val (.int (31 : Int32))] [])) _
      refine XS.iloadN X0.here hx rfl (hb hby d_jdk_33_method_47_18) rfl ?_
      show Steps p.tables e below (s₁.setTop (mkF m 19 #[.val (.int xi), .val (.int (31 : Int32))] [(.int xi)])) _
      refine X0.ldcwInt hx hown (mvT hZ (hw _ (List.mem_of_getElem? (i := 24) rfl))) (g := (mkF m 19 #[.val (.int xi), .val (.int (31 : Int32))] [(.int xi)])) rfl (hb hby d_jdk_33_method_47_19) _ ?_
      show Steps p.tables e below (s₁.setTop (mkF m 22 #[.val (.int xi), .val (.int (31 : Int32))] [(.int (65536 : Int32)), (.int xi)])) _
      suffices J22 : Steps p.tables e below (s₁.setTop (mkF m 33 #[.val (.int (nX1 xi)), .val (.int (nB1 xi))] [])) (s₁.setFrames fs) by
        by_cases h22 : xi < (65536 : Int32)
        · refine XS.icmpYes X0.here hx rfl (pc0 := 22) (pc' := 33) rfl (hb hby d_jdk_33_method_47_22) rfl (tlt h22).1 (by decide) (by decide) ?_
          show Steps p.tables e below (s₁.setTop (mkF m 33 #[.val (.int xi), .val (.int (31 : Int32))] [])) _
          rw [show (nX1 xi) = xi from by simp only [nX1, nB1, h1, h22, eq_self, if_true, if_false]] at J22
          rw [show (nB1 xi) = (31 : Int32) from by simp only [nX1, nB1, h1, h22, eq_self, if_true, if_false]] at J22
          exact J22
        · refine XS.icmpNo X0.here hx rfl (hb hby d_jdk_33_method_47_22) rfl (flt h22).1 ?_
          show Steps p.tables e below (s₁.setTop (mkF m 25 #[.val (.int xi), .val (.int (31 : Int32))] [])) _
          refine XS.iinc X0.here hx rfl (hb hby d_jdk_33_method_47_25) rfl (l' := #[.val (.int xi), .val (.int ((31 : Int32) + (-16 : Int32)))]) rfl ?_
          show Steps p.tables e below (s₁.setTop (mkF m 28 #[.val (.int xi), .val (.int ((31 : Int32) + (-16 : Int32)))] [])) _
          refine XS.iloadN X0.here hx rfl (hb hby d_jdk_33_method_47_28) rfl ?_
          show Steps p.tables e below (s₁.setTop (mkF m 29 #[.val (.int xi), .val (.int ((31 : Int32) + (-16 : Int32)))] [(.int xi)])) _
          refine XS.bipush X0.here hx rfl (hb hby d_jdk_33_method_47_29) ?_
          show Steps p.tables e below (s₁.setTop (mkF m 31 #[.val (.int xi), .val (.int ((31 : Int32) + (-16 : Int32)))] [(.int (16 : Int32)), (.int xi)])) _
          refine XS.iushr X0.here hx rfl (hb hby d_jdk_33_method_47_31) rfl ?_
          show Steps p.tables e below (s₁.setTop (mkF m 32 #[.val (.int xi), .val (.int ((31 : Int32) + (-16 : Int32)))] [(.int (ushI xi (16 : Int32)))])) _
          refine XS.istoreN X0.here hx rfl (hb hby d_jdk_33_method_47_32) rfl (l' := #[.val (.int (ushI xi (16 : Int32))), .val (.int ((31 : Int32) + (-16 : Int32)))]) rfl ?_
          show Steps p.tables e below (s₁.setTop (mkF m 33 #[.val (.int (ushI xi (16 : Int32))), .val (.int ((31 : Int32) + (-16 : Int32)))] [])) _
          rw [show (nX1 xi) = (ushI xi (16 : Int32)) from by simp only [nX1, nB1, h1, h22, eq_self, if_true, if_false]] at J22
          rw [show (nB1 xi) = ((31 : Int32) + (-16 : Int32)) from by simp only [nX1, nB1, h1, h22, eq_self, if_true, if_false]] at J22
          exact J22
      show Steps p.tables e below (s₁.setTop (mkF m 33 #[.val (.int (nX1 xi)), .val (.int (nB1 xi))] [])) _
      refine XS.iloadN X0.here hx rfl (hb hby d_jdk_33_method_47_33) rfl ?_
      show Steps p.tables e below (s₁.setTop (mkF m 34 #[.val (.int (nX1 xi)), .val (.int (nB1 xi))] [(.int (nX1 xi))])) _
      refine XS.sipush X0.here hx rfl (hb hby d_jdk_33_method_47_34) ?_
      show Steps p.tables e below (s₁.setTop (mkF m 37 #[.val (.int (nX1 xi)), .val (.int (nB1 xi))] [(.int (256 : Int32)), (.int (nX1 xi))])) _
      suffices J37 : Steps p.tables e below (s₁.setTop (mkF m 48 #[.val (.int (nX2 xi)), .val (.int (nB2 xi))] [])) (s₁.setFrames fs) by
        by_cases h37 : (nX1 xi) < (256 : Int32)
        · refine XS.icmpYes X0.here hx rfl (pc0 := 37) (pc' := 48) rfl (hb hby d_jdk_33_method_47_37) rfl (tlt h37).1 (by decide) (by decide) ?_
          show Steps p.tables e below (s₁.setTop (mkF m 48 #[.val (.int (nX1 xi)), .val (.int (nB1 xi))] [])) _
          rw [show (nX2 xi) = (nX1 xi) from by simp only [nX2, nB2, h1, h37, eq_self, if_true, if_false]] at J37
          rw [show (nB2 xi) = (nB1 xi) from by simp only [nX2, nB2, h1, h37, eq_self, if_true, if_false]] at J37
          exact J37
        · refine XS.icmpNo X0.here hx rfl (hb hby d_jdk_33_method_47_37) rfl (flt h37).1 ?_
          show Steps p.tables e below (s₁.setTop (mkF m 40 #[.val (.int (nX1 xi)), .val (.int (nB1 xi))] [])) _
          refine XS.iinc X0.here hx rfl (hb hby d_jdk_33_method_47_40) rfl (l' := #[.val (.int (nX1 xi)), .val (.int ((nB1 xi) + (-8 : Int32)))]) rfl ?_
          show Steps p.tables e below (s₁.setTop (mkF m 43 #[.val (.int (nX1 xi)), .val (.int ((nB1 xi) + (-8 : Int32)))] [])) _
          refine XS.iloadN X0.here hx rfl (hb hby d_jdk_33_method_47_43) rfl ?_
          show Steps p.tables e below (s₁.setTop (mkF m 44 #[.val (.int (nX1 xi)), .val (.int ((nB1 xi) + (-8 : Int32)))] [(.int (nX1 xi))])) _
          refine XS.bipush X0.here hx rfl (hb hby d_jdk_33_method_47_44) ?_
          show Steps p.tables e below (s₁.setTop (mkF m 46 #[.val (.int (nX1 xi)), .val (.int ((nB1 xi) + (-8 : Int32)))] [(.int (8 : Int32)), (.int (nX1 xi))])) _
          refine XS.iushr X0.here hx rfl (hb hby d_jdk_33_method_47_46) rfl ?_
          show Steps p.tables e below (s₁.setTop (mkF m 47 #[.val (.int (nX1 xi)), .val (.int ((nB1 xi) + (-8 : Int32)))] [(.int (ushI (nX1 xi) (8 : Int32)))])) _
          refine XS.istoreN X0.here hx rfl (hb hby d_jdk_33_method_47_47) rfl (l' := #[.val (.int (ushI (nX1 xi) (8 : Int32))), .val (.int ((nB1 xi) + (-8 : Int32)))]) rfl ?_
          show Steps p.tables e below (s₁.setTop (mkF m 48 #[.val (.int (ushI (nX1 xi) (8 : Int32))), .val (.int ((nB1 xi) + (-8 : Int32)))] [])) _
          rw [show (nX2 xi) = (ushI (nX1 xi) (8 : Int32)) from by simp only [nX2, nB2, h1, h37, eq_self, if_true, if_false]] at J37
          rw [show (nB2 xi) = ((nB1 xi) + (-8 : Int32)) from by simp only [nX2, nB2, h1, h37, eq_self, if_true, if_false]] at J37
          exact J37
      show Steps p.tables e below (s₁.setTop (mkF m 48 #[.val (.int (nX2 xi)), .val (.int (nB2 xi))] [])) _
      refine XS.iloadN X0.here hx rfl (hb hby d_jdk_33_method_47_48) rfl ?_
      show Steps p.tables e below (s₁.setTop (mkF m 49 #[.val (.int (nX2 xi)), .val (.int (nB2 xi))] [(.int (nX2 xi))])) _
      refine XS.bipush X0.here hx rfl (hb hby d_jdk_33_method_47_49) ?_
      show Steps p.tables e below (s₁.setTop (mkF m 51 #[.val (.int (nX2 xi)), .val (.int (nB2 xi))] [(.int (16 : Int32)), (.int (nX2 xi))])) _
      suffices J51 : Steps p.tables e below (s₁.setTop (mkF m 61 #[.val (.int (nX3 xi)), .val (.int (nB3 xi))] [])) (s₁.setFrames fs) by
        by_cases h51 : (nX2 xi) < (16 : Int32)
        · refine XS.icmpYes X0.here hx rfl (pc0 := 51) (pc' := 61) rfl (hb hby d_jdk_33_method_47_51) rfl (tlt h51).1 (by decide) (by decide) ?_
          show Steps p.tables e below (s₁.setTop (mkF m 61 #[.val (.int (nX2 xi)), .val (.int (nB2 xi))] [])) _
          rw [show (nX3 xi) = (nX2 xi) from by simp only [nX3, nB3, h1, h51, eq_self, if_true, if_false]] at J51
          rw [show (nB3 xi) = (nB2 xi) from by simp only [nX3, nB3, h1, h51, eq_self, if_true, if_false]] at J51
          exact J51
        · refine XS.icmpNo X0.here hx rfl (hb hby d_jdk_33_method_47_51) rfl (flt h51).1 ?_
          show Steps p.tables e below (s₁.setTop (mkF m 54 #[.val (.int (nX2 xi)), .val (.int (nB2 xi))] [])) _
          refine XS.iinc X0.here hx rfl (hb hby d_jdk_33_method_47_54) rfl (l' := #[.val (.int (nX2 xi)), .val (.int ((nB2 xi) + (-4 : Int32)))]) rfl ?_
          show Steps p.tables e below (s₁.setTop (mkF m 57 #[.val (.int (nX2 xi)), .val (.int ((nB2 xi) + (-4 : Int32)))] [])) _
          refine XS.iloadN X0.here hx rfl (hb hby d_jdk_33_method_47_57) rfl ?_
          show Steps p.tables e below (s₁.setTop (mkF m 58 #[.val (.int (nX2 xi)), .val (.int ((nB2 xi) + (-4 : Int32)))] [(.int (nX2 xi))])) _
          refine XS.iconst X0.here hx rfl (hb hby d_jdk_33_method_47_58) ?_
          show Steps p.tables e below (s₁.setTop (mkF m 59 #[.val (.int (nX2 xi)), .val (.int ((nB2 xi) + (-4 : Int32)))] [(.int (4 : Int32)), (.int (nX2 xi))])) _
          refine XS.iushr X0.here hx rfl (hb hby d_jdk_33_method_47_59) rfl ?_
          show Steps p.tables e below (s₁.setTop (mkF m 60 #[.val (.int (nX2 xi)), .val (.int ((nB2 xi) + (-4 : Int32)))] [(.int (ushI (nX2 xi) (4 : Int32)))])) _
          refine XS.istoreN X0.here hx rfl (hb hby d_jdk_33_method_47_60) rfl (l' := #[.val (.int (ushI (nX2 xi) (4 : Int32))), .val (.int ((nB2 xi) + (-4 : Int32)))]) rfl ?_
          show Steps p.tables e below (s₁.setTop (mkF m 61 #[.val (.int (ushI (nX2 xi) (4 : Int32))), .val (.int ((nB2 xi) + (-4 : Int32)))] [])) _
          rw [show (nX3 xi) = (ushI (nX2 xi) (4 : Int32)) from by simp only [nX3, nB3, h1, h51, eq_self, if_true, if_false]] at J51
          rw [show (nB3 xi) = ((nB2 xi) + (-4 : Int32)) from by simp only [nX3, nB3, h1, h51, eq_self, if_true, if_false]] at J51
          exact J51
      show Steps p.tables e below (s₁.setTop (mkF m 61 #[.val (.int (nX3 xi)), .val (.int (nB3 xi))] [])) _
      refine XS.iloadN X0.here hx rfl (hb hby d_jdk_33_method_47_61) rfl ?_
      show Steps p.tables e below (s₁.setTop (mkF m 62 #[.val (.int (nX3 xi)), .val (.int (nB3 xi))] [(.int (nX3 xi))])) _
      refine XS.iconst X0.here hx rfl (hb hby d_jdk_33_method_47_62) ?_
      show Steps p.tables e below (s₁.setTop (mkF m 63 #[.val (.int (nX3 xi)), .val (.int (nB3 xi))] [(.int (4 : Int32)), (.int (nX3 xi))])) _
      suffices J63 : Steps p.tables e below (s₁.setTop (mkF m 73 #[.val (.int (nX4 xi)), .val (.int (nB4 xi))] [])) (s₁.setFrames fs) by
        by_cases h63 : (nX3 xi) < (4 : Int32)
        · refine XS.icmpYes X0.here hx rfl (pc0 := 63) (pc' := 73) rfl (hb hby d_jdk_33_method_47_63) rfl (tlt h63).1 (by decide) (by decide) ?_
          show Steps p.tables e below (s₁.setTop (mkF m 73 #[.val (.int (nX3 xi)), .val (.int (nB3 xi))] [])) _
          rw [show (nX4 xi) = (nX3 xi) from by simp only [nX4, nB4, h1, h63, eq_self, if_true, if_false]] at J63
          rw [show (nB4 xi) = (nB3 xi) from by simp only [nX4, nB4, h1, h63, eq_self, if_true, if_false]] at J63
          exact J63
        · refine XS.icmpNo X0.here hx rfl (hb hby d_jdk_33_method_47_63) rfl (flt h63).1 ?_
          show Steps p.tables e below (s₁.setTop (mkF m 66 #[.val (.int (nX3 xi)), .val (.int (nB3 xi))] [])) _
          refine XS.iinc X0.here hx rfl (hb hby d_jdk_33_method_47_66) rfl (l' := #[.val (.int (nX3 xi)), .val (.int ((nB3 xi) + (-2 : Int32)))]) rfl ?_
          show Steps p.tables e below (s₁.setTop (mkF m 69 #[.val (.int (nX3 xi)), .val (.int ((nB3 xi) + (-2 : Int32)))] [])) _
          refine XS.iloadN X0.here hx rfl (hb hby d_jdk_33_method_47_69) rfl ?_
          show Steps p.tables e below (s₁.setTop (mkF m 70 #[.val (.int (nX3 xi)), .val (.int ((nB3 xi) + (-2 : Int32)))] [(.int (nX3 xi))])) _
          refine XS.iconst X0.here hx rfl (hb hby d_jdk_33_method_47_70) ?_
          show Steps p.tables e below (s₁.setTop (mkF m 71 #[.val (.int (nX3 xi)), .val (.int ((nB3 xi) + (-2 : Int32)))] [(.int (2 : Int32)), (.int (nX3 xi))])) _
          refine XS.iushr X0.here hx rfl (hb hby d_jdk_33_method_47_71) rfl ?_
          show Steps p.tables e below (s₁.setTop (mkF m 72 #[.val (.int (nX3 xi)), .val (.int ((nB3 xi) + (-2 : Int32)))] [(.int (ushI (nX3 xi) (2 : Int32)))])) _
          refine XS.istoreN X0.here hx rfl (hb hby d_jdk_33_method_47_72) rfl (l' := #[.val (.int (ushI (nX3 xi) (2 : Int32))), .val (.int ((nB3 xi) + (-2 : Int32)))]) rfl ?_
          show Steps p.tables e below (s₁.setTop (mkF m 73 #[.val (.int (ushI (nX3 xi) (2 : Int32))), .val (.int ((nB3 xi) + (-2 : Int32)))] [])) _
          rw [show (nX4 xi) = (ushI (nX3 xi) (2 : Int32)) from by simp only [nX4, nB4, h1, h63, eq_self, if_true, if_false]] at J63
          rw [show (nB4 xi) = ((nB3 xi) + (-2 : Int32)) from by simp only [nX4, nB4, h1, h63, eq_self, if_true, if_false]] at J63
          exact J63
      show Steps p.tables e below (s₁.setTop (mkF m 73 #[.val (.int (nX4 xi)), .val (.int (nB4 xi))] [])) _
      refine XS.iloadN X0.here hx rfl (hb hby d_jdk_33_method_47_73) rfl ?_
      show Steps p.tables e below (s₁.setTop (mkF m 74 #[.val (.int (nX4 xi)), .val (.int (nB4 xi))] [(.int (nB4 xi))])) _
      refine XS.iloadN X0.here hx rfl (hb hby d_jdk_33_method_47_74) rfl ?_
      show Steps p.tables e below (s₁.setTop (mkF m 75 #[.val (.int (nX4 xi)), .val (.int (nB4 xi))] [(.int (nX4 xi)), (.int (nB4 xi))])) _
      refine XS.iconst X0.here hx rfl (hb hby d_jdk_33_method_47_75) ?_
      show Steps p.tables e below (s₁.setTop (mkF m 76 #[.val (.int (nX4 xi)), .val (.int (nB4 xi))] [(.int (1 : Int32)), (.int (nX4 xi)), (.int (nB4 xi))])) _
      refine XS.iushr X0.here hx rfl (hb hby d_jdk_33_method_47_76) rfl ?_
      show Steps p.tables e below (s₁.setTop (mkF m 77 #[.val (.int (nX4 xi)), .val (.int (nB4 xi))] [(.int (ushI (nX4 xi) (1 : Int32))), (.int (nB4 xi))])) _
      refine XS.isub X0.here hx rfl (hb hby d_jdk_33_method_47_77) rfl ?_
      show Steps p.tables e below (s₁.setTop (mkF m 78 #[.val (.int (nX4 xi)), .val (.int (nB4 xi))] [(.int ((nB4 xi) - (ushI (nX4 xi) (1 : Int32))))])) _
      exact retI X0 hx Bd.returns (hb hby d_jdk_33_method_47_78) (by rw [show ((nB4 xi) - (ushI (nX4 xi) (1 : Int32))) = (nlzI xi) from by rw [nlzI, if_pos h1]]; exact hr)
    · refine XS.ifNo X0.here hx rfl (hb hby d_jdk_33_method_47_1) rfl ((if0 _ _).trans (flt h1).2.2.1) ?_
      show Steps p.tables e below (s₁.setTop (mkF m 4 #[.val (.int xi), .unset] [])) _
      refine XS.iloadN X0.here hx rfl (hb hby d_jdk_33_method_47_4) rfl ?_
      show Steps p.tables e below (s₁.setTop (mkF m 5 #[.val (.int xi), .unset] [(.int xi)])) _
      by_cases h5 : xi = (0 : Int32)
      · refine XS.ifNo X0.here hx rfl (hb hby d_jdk_33_method_47_5) rfl ((if0 _ _).trans (teq h5).2) ?_
        show Steps p.tables e below (s₁.setTop (mkF m 8 #[.val (.int xi), .unset] [])) _
        refine XS.bipush X0.here hx rfl (hb hby d_jdk_33_method_47_8) ?_
        show Steps p.tables e below (s₁.setTop (mkF m 10 #[.val (.int xi), .unset] [(.int (32 : Int32))])) _
        refine XS.goto X0.here hx rfl (pc0 := 10) (pc' := 14) rfl (hb hby d_jdk_33_method_47_10) (by decide) (by decide) ?_
        show Steps p.tables e below (s₁.setTop (mkF m 14 #[.val (.int xi), .unset] [(.int (32 : Int32))])) _
        exact retI X0 hx Bd.returns (hb hby d_jdk_33_method_47_14) (by rw [show (32 : Int32) = (nlzI xi) from by rw [nlzI, if_neg h1, if_pos h5]]; exact hr)
      · refine XS.ifYes X0.here hx rfl (pc0 := 5) (pc' := 13) rfl (hb hby d_jdk_33_method_47_5) rfl ((if0 _ _).trans (feq h5).2) (by decide) (by decide) ?_
        show Steps p.tables e below (s₁.setTop (mkF m 13 #[.val (.int xi), .unset] [])) _
        refine XS.iconst X0.here hx rfl (hb hby d_jdk_33_method_47_13) ?_
        show Steps p.tables e below (s₁.setTop (mkF m 14 #[.val (.int xi), .unset] [(.int (0 : Int32))])) _
        exact retI X0 hx Bd.returns (hb hby d_jdk_33_method_47_14) (by rw [show (0 : Int32) = (nlzI xi) from by rw [nlzI, if_neg h1, if_neg h5]]; exact hr)
  · show Q_nlzI Z xi h0 n0 _ s₁.heap _
    exact ⟨rfl, N0, e0⟩
theorem d_jdk_35_method_48_0 : decode jdk_35_method_48_code 0 = .ok (.lload_n 0, 1) := by decide +kernel
theorem d_jdk_35_method_48_1 : decode jdk_35_method_48_code 1 = .ok (.bipush 32, 2) := by decide +kernel
theorem d_jdk_35_method_48_3 : decode jdk_35_method_48_code 3 = .ok (.lushr, 1) := by decide +kernel
theorem d_jdk_35_method_48_4 : decode jdk_35_method_48_code 4 = .ok (.l2i, 1) := by decide +kernel
theorem d_jdk_35_method_48_5 : decode jdk_35_method_48_code 5 = .ok (.istore_n 2, 1) := by decide +kernel
theorem d_jdk_35_method_48_6 : decode jdk_35_method_48_code 6 = .ok (.iload_n 2, 1) := by decide +kernel
theorem d_jdk_35_method_48_7 : decode jdk_35_method_48_code 7 = .ok (.ifCond .ne 14, 3) := by decide +kernel
theorem d_jdk_35_method_48_10 : decode jdk_35_method_48_code 10 = .ok (.bipush 32, 2) := by decide +kernel
theorem d_jdk_35_method_48_12 : decode jdk_35_method_48_code 12 = .ok (.lload_n 0, 1) := by decide +kernel
theorem d_jdk_35_method_48_13 : decode jdk_35_method_48_code 13 = .ok (.l2i, 1) := by decide +kernel
theorem d_jdk_35_method_48_14 : decode jdk_35_method_48_code 14 = .ok (.invokestatic 308, 3) := by decide +kernel
theorem d_jdk_35_method_48_17 : decode jdk_35_method_48_code 17 = .ok (.iadd, 1) := by decide +kernel
theorem d_jdk_35_method_48_18 : decode jdk_35_method_48_code 18 = .ok (.goto 7, 3) := by decide +kernel
theorem d_jdk_35_method_48_21 : decode jdk_35_method_48_code 21 = .ok (.iload_n 2, 1) := by decide +kernel
theorem d_jdk_35_method_48_22 : decode jdk_35_method_48_code 22 = .ok (.invokestatic 308, 3) := by decide +kernel
theorem d_jdk_35_method_48_25 : decode jdk_35_method_48_code 25 = .ok (.ireturn, 1) := by decide +kernel
theorem pn_1 : plainName "java/lang/Long" = true := by first | (simp [plainName, overriddenIn]; done) | decide +kernel
theorem pd_0 : parseMethodDescriptor "(I)I" = some ⟨[.int], some .int⟩ := by decide +kernel
theorem ef_nlzL (m : MethodId) (xq : Int64) : entryFrame m #[(.long xq)] 3 = mkF m 0 #[.val (.long xq), .second, .unset] [] := by first | (simp [entryFrame, mkF, argsToLocals, Value.category]; done) | rfl
def Q_nlzL (Z : State) (xq : Int64) (h0 : Heap) (n0 : Nat) (v : Option Value) (h : Heap) (L : List Loc) : Prop := v = some (.int (nlzL xq)) ∧ Fr n0 L ∧ h = h0
set_option maxRecDepth 65536 in
set_option maxHeartbeats 40000000 in
theorem rm_nlzL (l : Launch) (Z : State) (a0 : Array Value) (hw : ∀ d ∈ tables_1, d.before a0 Z = true) (ws : List Jvm.Cond) (xq : Int64) (h0 : Heap) (n0 : Nat) (Z0 : n0 ≤ h0.size) :
    MetFree l (⟨"java/lang/Long", "numberOfLeadingZeros", "(J)I"⟩ : MethodName) (head1 (Jvm.Cond.code (⟨"java/lang/Long", "numberOfLeadingZeros", "(J)I"⟩ : MethodName) jdk_35_method_48_code 3 (some .int) :: ws) ({ frames := 1, cells := 0, slots := 0, locals := 14 } : Room)) (fun a U => a = #[(.long xq)] ∧ Z.Warmed39 U.vm ∧ U.heap = h0) (fun _ _ _ _ _ => True) (fun _ U o U' => ∃ v L, o = .returned v ∧ Q_nlzL Z xq h0 n0 v U'.heap L ∧ FrameEnd U o U' L ({ frames := 1, cells := 0, slots := 0, locals := 14 } : Room).cells ({ frames := 1, cells := 0, slots := 0, locals := 14 } : Room).slots) := by
  refine MetFree.of_bodySF (plainFor_of_name pn_1) hisR ?_
  intro p e s m args below meth c s₁ Bd hml0 hP hK
  obtain ⟨rfl, hZ, hh⟩ := hP
  have hx := Bd.exec
  have hby := Bd.bytes
  have hml : c.maxLocals = 3 := hml0
  have hown : s.vm.findClass "java/lang/Long" = some m.cls := findClass_of_methodNamed Bd.named
  have X0 : Stand p l e ({ frames := 1, cells := 0, slots := 0, locals := 14 } : Room) s m #[(.long xq)] below meth c s₁ [] 0 0 := Stand.of_body Bd
  have e0 : s₁.heap = h0 := by rw [← hh, Bd.state]; rfl
  have N0 := Fr.nil n0
  have pre0 : ∀ t, Steps p.tables e below (s₁.setTop (mkF m 0 #[.val (.long xq), .second, .unset] [])) t → Steps p.tables e below (s₁.setTop (entryFrame m #[(.long xq)] 3)) t := fun t k => castTop (ef_nlzL m xq) k
  by_cases hc7 : (hiW xq) = (0 : Int32)
  · obtain ⟨_, _, ⟨T1, L1, k1, n1⟩, -, X1, ⟨Lc1, hQ1, l1, y1, z1⟩, st1⟩ := Jvm.LawKit.callS X0 hx (y := (⟨"java/lang/Integer", "numberOfLeadingZeros", "(I)I"⟩ : MethodName)) hown (mvT hZ (hw _ (List.mem_of_getElem? (i := 20) rfl))) (mvT hZ (hw _ (List.mem_of_getElem? (i := 21) rfl))) (mvT hZ (hw _ (List.mem_of_getElem? (i := 22) rfl))) (mvT hZ (hw _ (List.mem_of_getElem? (i := 23) rfl))) (by decide) (backOf (W := 1) (rm_nlzI l Z a0 hw [] (xq.toInt32) h0 n0 Z0) hZ (hw _ (List.mem_of_getElem? (i := 23) rfl)) (hw _ (List.mem_of_getElem? (i := 22) rfl)) (by decide) (by decide)) (g := (mkF m 14 #[.val (.long xq), .second, .val (.int (hiW xq))] [(.int (xq.toInt32)), (.int (32 : Int32))])) rfl (by rw [hml]; rfl) (argsL := [(.int (xq.toInt32))]) (rest := [(.int (32 : Int32))]) (lenOf pd_0 rfl) rfl (by show 2 * 0 + _ ≤ _; exact Nat.le_of_eq rfl) (hb hby d_jdk_35_method_48_14) (fun _ _ => ⟨rfl, e0, (by decide : 0 + 0 ≤ _), (by decide : 0 + 0 ≤ _)⟩)
    dsimp only [Pt.U, Pt.locs, Pt.cells, Pt.slots] at X1 l1 y1 z1 st1 hQ1
    subst l1 y1 z1
    obtain ⟨rfl, N1q, e1⟩ := hQ1
    have N1 := Fr.app N0 N1q
    obtain ⟨fs, hr, hrun, hended, hW, hsame⟩ := X1.leave (v := some (.int (nlzL xq))) (fun h => by rw [Bd.returns] at h; cases h)
    refine ⟨_, _, pre0 _ ?_, hrun, hended, _, _, rfl, ?_, ⟨_, rfl⟩, hW, hsame.mono (by decide) (by decide)⟩
    · show Steps p.tables e below (s₁.setTop (mkF m 0 #[.val (.long xq), .second, .unset] [])) _
      refine XS.lloadN X0.here hx rfl (hb hby d_jdk_35_method_48_0) rfl ?_
      show Steps p.tables e below (s₁.setTop (mkF m 1 #[.val (.long xq), .second, .unset] [(.long xq)])) _
      refine XS.bipush X0.here hx rfl (hb hby d_jdk_35_method_48_1) ?_
      show Steps p.tables e below (s₁.setTop (mkF m 3 #[.val (.long xq), .second, .unset] [(.int (32 : Int32)), (.long xq)])) _
      refine XS.lushr X0.here hx rfl (hb hby d_jdk_35_method_48_3) rfl ?_
      show Steps p.tables e below (s₁.setTop (mkF m 4 #[.val (.long xq), .second, .unset] [(.long ((xq.toUInt64 >>> ((32 : Int32) &&& 0x3f).toInt64.toUInt64).toInt64))])) _
      refine XS.l2i X0.here hx rfl (hb hby d_jdk_35_method_48_4) rfl ?_
      show Steps p.tables e below (s₁.setTop (mkF m 5 #[.val (.long xq), .second, .unset] [(.int (hiW xq))])) _
      refine XS.istoreN X0.here hx rfl (hb hby d_jdk_35_method_48_5) rfl (l' := #[.val (.long xq), .second, .val (.int (hiW xq))]) rfl ?_
      show Steps p.tables e below (s₁.setTop (mkF m 6 #[.val (.long xq), .second, .val (.int (hiW xq))] [])) _
      refine XS.iloadN X0.here hx rfl (hb hby d_jdk_35_method_48_6) rfl ?_
      show Steps p.tables e below (s₁.setTop (mkF m 7 #[.val (.long xq), .second, .val (.int (hiW xq))] [(.int (hiW xq))])) _
      refine XS.ifNo X0.here hx rfl (hb hby d_jdk_35_method_48_7) rfl ((if0 _ _).trans (teq hc7).2) ?_
      show Steps p.tables e below (s₁.setTop (mkF m 10 #[.val (.long xq), .second, .val (.int (hiW xq))] [])) _
      refine XS.bipush X0.here hx rfl (hb hby d_jdk_35_method_48_10) ?_
      show Steps p.tables e below (s₁.setTop (mkF m 12 #[.val (.long xq), .second, .val (.int (hiW xq))] [(.int (32 : Int32))])) _
      refine XS.lloadN X0.here hx rfl (hb hby d_jdk_35_method_48_12) rfl ?_
      show Steps p.tables e below (s₁.setTop (mkF m 13 #[.val (.long xq), .second, .val (.int (hiW xq))] [(.long xq), (.int (32 : Int32))])) _
      refine XS.l2i X0.here hx rfl (hb hby d_jdk_35_method_48_13) rfl ?_
      show Steps p.tables e below (s₁.setTop (mkF m 14 #[.val (.long xq), .second, .val (.int (hiW xq))] [(.int (xq.toInt32)), (.int (32 : Int32))])) _
      refine st1 _ ?_
      show Steps p.tables e below (T1.setTop (mkF m 17 #[.val (.long xq), .second, .val (.int (hiW xq))] [(.int (nlzI (xq.toInt32))), (.int (32 : Int32))])) _
      refine XS.iadd X1.here hx rfl (hb hby d_jdk_35_method_48_17) rfl ?_
      show Steps p.tables e below (T1.setTop (mkF m 18 #[.val (.long xq), .second, .val (.int (hiW xq))] [(.int ((32 : Int32) + (nlzI (xq.toInt32))))])) _
      refine XS.goto X1.here hx rfl (pc0 := 18) (pc' := 25) rfl (hb hby d_jdk_35_method_48_18) (by decide) (by decide) ?_
      show Steps p.tables e below (T1.setTop (mkF m 25 #[.val (.long xq), .second, .val (.int (hiW xq))] [(.int ((32 : Int32) + (nlzI (xq.toInt32))))])) _
      exact retI X1 hx Bd.returns (hb hby d_jdk_35_method_48_25) (by rw [show ((32 : Int32) + (nlzI (xq.toInt32))) = (nlzL xq) from by simp only [nlzL, hc7, eq_self, if_true, if_false]]; exact hr)
    · show Q_nlzL Z xq h0 n0 _ T1.heap _
      exact ⟨rfl, N1, e1⟩
  · obtain ⟨_, _, ⟨T2, L2, k2, n2⟩, -, X2, ⟨Lc2, hQ2, l2, y2, z2⟩, st2⟩ := Jvm.LawKit.callS X0 hx (y := (⟨"java/lang/Integer", "numberOfLeadingZeros", "(I)I"⟩ : MethodName)) hown (mvT hZ (hw _ (List.mem_of_getElem? (i := 20) rfl))) (mvT hZ (hw _ (List.mem_of_getElem? (i := 21) rfl))) (mvT hZ (hw _ (List.mem_of_getElem? (i := 22) rfl))) (mvT hZ (hw _ (List.mem_of_getElem? (i := 23) rfl))) (by decide) (backOf (W := 0) (rm_nlzI l Z a0 hw [] (hiW xq) h0 n0 Z0) hZ (hw _ (List.mem_of_getElem? (i := 23) rfl)) (hw _ (List.mem_of_getElem? (i := 22) rfl)) (by decide) (by decide)) (g := (mkF m 22 #[.val (.long xq), .second, .val (.int (hiW xq))] [(.int (hiW xq))])) rfl (by rw [hml]; rfl) (argsL := [(.int (hiW xq))]) (rest := []) (lenOf pd_0 rfl) rfl (by show 2 * 0 + _ ≤ _; exact Nat.le_of_eq rfl) (hb hby d_jdk_35_method_48_22) (fun _ _ => ⟨rfl, e0, (by decide : 0 + 0 ≤ _), (by decide : 0 + 0 ≤ _)⟩)
    dsimp only [Pt.U, Pt.locs, Pt.cells, Pt.slots] at X2 l2 y2 z2 st2 hQ2
    subst l2 y2 z2
    obtain ⟨rfl, N2q, e2⟩ := hQ2
    have N2 := Fr.app N0 N2q
    obtain ⟨fs, hr, hrun, hended, hW, hsame⟩ := X2.leave (v := some (.int (nlzL xq))) (fun h => by rw [Bd.returns] at h; cases h)
    refine ⟨_, _, pre0 _ ?_, hrun, hended, _, _, rfl, ?_, ⟨_, rfl⟩, hW, hsame.mono (by decide) (by decide)⟩
    · show Steps p.tables e below (s₁.setTop (mkF m 0 #[.val (.long xq), .second, .unset] [])) _
      refine XS.lloadN X0.here hx rfl (hb hby d_jdk_35_method_48_0) rfl ?_
      show Steps p.tables e below (s₁.setTop (mkF m 1 #[.val (.long xq), .second, .unset] [(.long xq)])) _
      refine XS.bipush X0.here hx rfl (hb hby d_jdk_35_method_48_1) ?_
      show Steps p.tables e below (s₁.setTop (mkF m 3 #[.val (.long xq), .second, .unset] [(.int (32 : Int32)), (.long xq)])) _
      refine XS.lushr X0.here hx rfl (hb hby d_jdk_35_method_48_3) rfl ?_
      show Steps p.tables e below (s₁.setTop (mkF m 4 #[.val (.long xq), .second, .unset] [(.long ((xq.toUInt64 >>> ((32 : Int32) &&& 0x3f).toInt64.toUInt64).toInt64))])) _
      refine XS.l2i X0.here hx rfl (hb hby d_jdk_35_method_48_4) rfl ?_
      show Steps p.tables e below (s₁.setTop (mkF m 5 #[.val (.long xq), .second, .unset] [(.int (hiW xq))])) _
      refine XS.istoreN X0.here hx rfl (hb hby d_jdk_35_method_48_5) rfl (l' := #[.val (.long xq), .second, .val (.int (hiW xq))]) rfl ?_
      show Steps p.tables e below (s₁.setTop (mkF m 6 #[.val (.long xq), .second, .val (.int (hiW xq))] [])) _
      refine XS.iloadN X0.here hx rfl (hb hby d_jdk_35_method_48_6) rfl ?_
      show Steps p.tables e below (s₁.setTop (mkF m 7 #[.val (.long xq), .second, .val (.int (hiW xq))] [(.int (hiW xq))])) _
      refine XS.ifYes X0.here hx rfl (pc0 := 7) (pc' := 21) rfl (hb hby d_jdk_35_method_48_7) rfl ((if0 _ _).trans (feq hc7).2) (by decide) (by decide) ?_
      show Steps p.tables e below (s₁.setTop (mkF m 21 #[.val (.long xq), .second, .val (.int (hiW xq))] [])) _
      refine XS.iloadN X0.here hx rfl (hb hby d_jdk_35_method_48_21) rfl ?_
      show Steps p.tables e below (s₁.setTop (mkF m 22 #[.val (.long xq), .second, .val (.int (hiW xq))] [(.int (hiW xq))])) _
      refine st2 _ ?_
      show Steps p.tables e below (T2.setTop (mkF m 25 #[.val (.long xq), .second, .val (.int (hiW xq))] [(.int (nlzI (hiW xq)))])) _
      exact retI X2 hx Bd.returns (hb hby d_jdk_35_method_48_25) (by rw [show (nlzI (hiW xq)) = (nlzL xq) from by simp only [nlzL, hc7, eq_self, if_true, if_false]]; exact hr)
    · show Q_nlzL Z xq h0 n0 _ T2.heap _
      exact ⟨rfl, N2, e2⟩
theorem d_prog_5_method_2_0 : decode prog_5_method_2_code 0 = .ok (.bipush 63, 2) := by decide +kernel
theorem d_prog_5_method_2_2 : decode prog_5_method_2_code 2 = .ok (.lload_n 0, 1) := by decide +kernel
theorem d_prog_5_method_2_3 : decode prog_5_method_2_code 3 = .ok (.invokestatic 13, 3) := by decide +kernel
theorem d_prog_5_method_2_6 : decode prog_5_method_2_code 6 = .ok (.isub, 1) := by decide +kernel
theorem d_prog_5_method_2_7 : decode prog_5_method_2_code 7 = .ok (.ireturn, 1) := by decide +kernel
theorem pn_2 : plainName "com/example/outboard/outboard/SizeClasses" = true := by first | (simp [plainName, overriddenIn]; done) | decide +kernel
theorem pd_1 : parseMethodDescriptor "(J)I" = some ⟨[.long], some .int⟩ := by decide +kernel
theorem ef_lg2 (m : MethodId) (xq : Int64) : entryFrame m #[(.long xq)] 2 = mkF m 0 #[.val (.long xq), .second] [] := by first | (simp [entryFrame, mkF, argsToLocals, Value.category]; done) | rfl
def Q_lg2 (Z : State) (xq : Int64) (h0 : Heap) (n0 : Nat) (v : Option Value) (h : Heap) (L : List Loc) : Prop := v = some (.int (lg2 xq)) ∧ Fr n0 L ∧ h = h0
set_option maxRecDepth 65536 in
set_option maxHeartbeats 40000000 in
theorem rm_lg2 (l : Launch) (Z : State) (a0 : Array Value) (hw : ∀ d ∈ tables_1, d.before a0 Z = true) (ws : List Jvm.Cond) (xq : Int64) (h0 : Heap) (n0 : Nat) (Z0 : n0 ≤ h0.size) :
    MetFree l (⟨"com/example/outboard/outboard/SizeClasses", "log2", "(J)I"⟩ : MethodName) (head1 (Jvm.Cond.code (⟨"com/example/outboard/outboard/SizeClasses", "log2", "(J)I"⟩ : MethodName) prog_5_method_2_code 2 (some .int) :: ws) ({ frames := 2, cells := 0, slots := 0, locals := 29 } : Room)) (fun a U => a = #[(.long xq)] ∧ Z.Warmed39 U.vm ∧ U.heap = h0) (fun _ _ _ _ _ => True) (fun _ U o U' => ∃ v L, o = .returned v ∧ Q_lg2 Z xq h0 n0 v U'.heap L ∧ FrameEnd U o U' L ({ frames := 2, cells := 0, slots := 0, locals := 29 } : Room).cells ({ frames := 2, cells := 0, slots := 0, locals := 29 } : Room).slots) := by
  refine MetFree.of_bodySF (plainFor_of_name pn_2) hisR ?_
  intro p e s m args below meth c s₁ Bd hml0 hP hK
  obtain ⟨rfl, hZ, hh⟩ := hP
  have hx := Bd.exec
  have hby := Bd.bytes
  have hml : c.maxLocals = 2 := hml0
  have hown : s.vm.findClass "com/example/outboard/outboard/SizeClasses" = some m.cls := findClass_of_methodNamed Bd.named
  have X0 : Stand p l e ({ frames := 2, cells := 0, slots := 0, locals := 29 } : Room) s m #[(.long xq)] below meth c s₁ [] 0 0 := Stand.of_body Bd
  have e0 : s₁.heap = h0 := by rw [← hh, Bd.state]; rfl
  have N0 := Fr.nil n0
  have pre0 : ∀ t, Steps p.tables e below (s₁.setTop (mkF m 0 #[.val (.long xq), .second] [])) t → Steps p.tables e below (s₁.setTop (entryFrame m #[(.long xq)] 2)) t := fun t k => castTop (ef_lg2 m xq) k
  obtain ⟨_, _, ⟨T1, L1, k1, n1⟩, -, X1, ⟨Lc1, hQ1, l1, y1, z1⟩, st1⟩ := Jvm.LawKit.callS X0 hx (y := (⟨"java/lang/Long", "numberOfLeadingZeros", "(J)I"⟩ : MethodName)) hown (mvT hZ (hw _ (List.mem_of_getElem? (i := 16) rfl))) (mvT hZ (hw _ (List.mem_of_getElem? (i := 17) rfl))) (mvT hZ (hw _ (List.mem_of_getElem? (i := 18) rfl))) (mvT hZ (hw _ (List.mem_of_getElem? (i := 19) rfl))) (by decide) (backOf (W := 1) (rm_nlzL l Z a0 hw [] xq h0 n0 Z0) hZ (hw _ (List.mem_of_getElem? (i := 19) rfl)) (hw _ (List.mem_of_getElem? (i := 18) rfl)) (by decide) (by decide)) (g := (mkF m 3 #[.val (.long xq), .second] [(.long xq), (.int (63 : Int32))])) rfl (by rw [hml]; rfl) (argsL := [(.long xq)]) (rest := [(.int (63 : Int32))]) (lenOf pd_1 rfl) rfl (by show 2 * 0 + _ ≤ _; exact Nat.le_of_eq rfl) (hb hby d_prog_5_method_2_3) (fun _ _ => ⟨rfl, e0, (by decide : 0 + 0 ≤ _), (by decide : 0 + 0 ≤ _)⟩)
  dsimp only [Pt.U, Pt.locs, Pt.cells, Pt.slots] at X1 l1 y1 z1 st1 hQ1
  subst l1 y1 z1
  obtain ⟨rfl, N1q, e1⟩ := hQ1
  have N1 := Fr.app N0 N1q
  obtain ⟨fs, hr, hrun, hended, hW, hsame⟩ := X1.leave (v := some (.int (lg2 xq))) (fun h => by rw [Bd.returns] at h; cases h)
  refine ⟨_, _, pre0 _ ?_, hrun, hended, _, _, rfl, ?_, ⟨_, rfl⟩, hW, hsame.mono (by decide) (by decide)⟩
  · show Steps p.tables e below (s₁.setTop (mkF m 0 #[.val (.long xq), .second] [])) _
    refine XS.bipush X0.here hx rfl (hb hby d_prog_5_method_2_0) ?_
    show Steps p.tables e below (s₁.setTop (mkF m 2 #[.val (.long xq), .second] [(.int (63 : Int32))])) _
    refine XS.lloadN X0.here hx rfl (hb hby d_prog_5_method_2_2) rfl ?_
    show Steps p.tables e below (s₁.setTop (mkF m 3 #[.val (.long xq), .second] [(.long xq), (.int (63 : Int32))])) _
    refine st1 _ ?_
    show Steps p.tables e below (T1.setTop (mkF m 6 #[.val (.long xq), .second] [(.int (nlzL xq)), (.int (63 : Int32))])) _
    refine XS.isub X1.here hx rfl (hb hby d_prog_5_method_2_6) rfl ?_
    show Steps p.tables e below (T1.setTop (mkF m 7 #[.val (.long xq), .second] [(.int (lg2 xq))])) _
    exact retI X1 hx Bd.returns (hb hby d_prog_5_method_2_7) hr
  · show Q_lg2 Z xq h0 n0 _ T1.heap _
    exact ⟨rfl, N1, e1⟩
theorem d_prog_5_method_3_0 : decode prog_5_method_3_code 0 = .ok (.lload_n 0, 1) := by decide +kernel
theorem d_prog_5_method_3_1 : decode prog_5_method_3_code 1 = .ok (.invokestatic 17, 3) := by decide +kernel
theorem d_prog_5_method_3_4 : decode prog_5_method_3_code 4 = .ok (.istore_n 2, 1) := by decide +kernel
theorem d_prog_5_method_3_5 : decode prog_5_method_3_code 5 = .ok (.iload_n 2, 1) := by decide +kernel
theorem d_prog_5_method_3_6 : decode prog_5_method_3_code 6 = .ok (.bipush 16, 2) := by decide +kernel
theorem d_prog_5_method_3_8 : decode prog_5_method_3_code 8 = .ok (.imul, 1) := by decide +kernel
theorem d_prog_5_method_3_9 : decode prog_5_method_3_code 9 = .ok (.lload_n 0, 1) := by decide +kernel
theorem d_prog_5_method_3_10 : decode prog_5_method_3_code 10 = .ok (.iconst 4, 1) := by decide +kernel
theorem d_prog_5_method_3_11 : decode prog_5_method_3_code 11 = .ok (.lshl, 1) := by decide +kernel
theorem d_prog_5_method_3_12 : decode prog_5_method_3_code 12 = .ok (.iload_n 2, 1) := by decide +kernel
theorem d_prog_5_method_3_13 : decode prog_5_method_3_code 13 = .ok (.lushr, 1) := by decide +kernel
theorem d_prog_5_method_3_14 : decode prog_5_method_3_code 14 = .ok (.l2i, 1) := by decide +kernel
theorem d_prog_5_method_3_15 : decode prog_5_method_3_code 15 = .ok (.iadd, 1) := by decide +kernel
theorem d_prog_5_method_3_16 : decode prog_5_method_3_code 16 = .ok (.bipush 16, 2) := by decide +kernel
theorem d_prog_5_method_3_18 : decode prog_5_method_3_code 18 = .ok (.isub, 1) := by decide +kernel
theorem d_prog_5_method_3_19 : decode prog_5_method_3_code 19 = .ok (.ireturn, 1) := by decide +kernel
theorem ef_band (m : MethodId) (xq : Int64) : entryFrame m #[(.long xq)] 3 = mkF m 0 #[.val (.long xq), .second, .unset] [] := by first | (simp [entryFrame, mkF, argsToLocals, Value.category]; done) | rfl
def Q_band (Z : State) (xq : Int64) (h0 : Heap) (n0 : Nat) (v : Option Value) (h : Heap) (L : List Loc) : Prop := v = some (.int (bandF xq)) ∧ Fr n0 L ∧ h = h0
set_option maxRecDepth 65536 in
set_option maxHeartbeats 40000000 in
theorem rm_band (l : Launch) (Z : State) (a0 : Array Value) (hw : ∀ d ∈ tables_1, d.before a0 Z = true) (ws : List Jvm.Cond) (xq : Int64) (h0 : Heap) (n0 : Nat) (Z0 : n0 ≤ h0.size) :
    MetFree l (⟨"com/example/outboard/outboard/SizeClasses", "band", "(J)I"⟩ : MethodName) (head1 (Jvm.Cond.code (⟨"com/example/outboard/outboard/SizeClasses", "band", "(J)I"⟩ : MethodName) prog_5_method_3_code 3 (some .int) :: ws) ({ frames := 3, cells := 0, slots := 0, locals := 42 } : Room)) (fun a U => a = #[(.long xq)] ∧ Z.Warmed39 U.vm ∧ U.heap = h0) (fun _ _ _ _ _ => True) (fun _ U o U' => ∃ v L, o = .returned v ∧ Q_band Z xq h0 n0 v U'.heap L ∧ FrameEnd U o U' L ({ frames := 3, cells := 0, slots := 0, locals := 42 } : Room).cells ({ frames := 3, cells := 0, slots := 0, locals := 42 } : Room).slots) := by
  refine MetFree.of_bodySF (plainFor_of_name pn_2) hisR ?_
  intro p e s m args below meth c s₁ Bd hml0 hP hK
  obtain ⟨rfl, hZ, hh⟩ := hP
  have hx := Bd.exec
  have hby := Bd.bytes
  have hml : c.maxLocals = 3 := hml0
  have hown : s.vm.findClass "com/example/outboard/outboard/SizeClasses" = some m.cls := findClass_of_methodNamed Bd.named
  have X0 : Stand p l e ({ frames := 3, cells := 0, slots := 0, locals := 42 } : Room) s m #[(.long xq)] below meth c s₁ [] 0 0 := Stand.of_body Bd
  have e0 : s₁.heap = h0 := by rw [← hh, Bd.state]; rfl
  have N0 := Fr.nil n0
  have pre0 : ∀ t, Steps p.tables e below (s₁.setTop (mkF m 0 #[.val (.long xq), .second, .unset] [])) t → Steps p.tables e below (s₁.setTop (entryFrame m #[(.long xq)] 3)) t := fun t k => castTop (ef_band m xq) k
  obtain ⟨_, _, ⟨T1, L1, k1, n1⟩, -, X1, ⟨Lc1, hQ1, l1, y1, z1⟩, st1⟩ := Jvm.LawKit.callS X0 hx (y := (⟨"com/example/outboard/outboard/SizeClasses", "log2", "(J)I"⟩ : MethodName)) hown (mvT hZ (hw _ (List.mem_of_getElem? (i := 13) rfl))) (mvT hZ (hw _ (List.mem_of_getElem? (i := 14) rfl))) (mvT hZ (hw _ (List.mem_of_getElem? (i := 4) rfl))) (mvT hZ (hw _ (List.mem_of_getElem? (i := 15) rfl))) (by decide) (backOf (W := 0) (rm_lg2 l Z a0 hw [] xq h0 n0 Z0) hZ (hw _ (List.mem_of_getElem? (i := 15) rfl)) (hw _ (List.mem_of_getElem? (i := 4) rfl)) (by decide) (by decide)) (g := (mkF m 1 #[.val (.long xq), .second, .unset] [(.long xq)])) rfl (by rw [hml]; rfl) (argsL := [(.long xq)]) (rest := []) (lenOf pd_1 rfl) rfl (by show 2 * 0 + _ ≤ _; exact Nat.le_of_eq rfl) (hb hby d_prog_5_method_3_1) (fun _ _ => ⟨rfl, e0, (by decide : 0 + 0 ≤ _), (by decide : 0 + 0 ≤ _)⟩)
  dsimp only [Pt.U, Pt.locs, Pt.cells, Pt.slots] at X1 l1 y1 z1 st1 hQ1
  subst l1 y1 z1
  obtain ⟨rfl, N1q, e1⟩ := hQ1
  have N1 := Fr.app N0 N1q
  obtain ⟨fs, hr, hrun, hended, hW, hsame⟩ := X1.leave (v := some (.int (bandF xq))) (fun h => by rw [Bd.returns] at h; cases h)
  refine ⟨_, _, pre0 _ ?_, hrun, hended, _, _, rfl, ?_, ⟨_, rfl⟩, hW, hsame.mono (by decide) (by decide)⟩
  · show Steps p.tables e below (s₁.setTop (mkF m 0 #[.val (.long xq), .second, .unset] [])) _
    refine XS.lloadN X0.here hx rfl (hb hby d_prog_5_method_3_0) rfl ?_
    show Steps p.tables e below (s₁.setTop (mkF m 1 #[.val (.long xq), .second, .unset] [(.long xq)])) _
    refine st1 _ ?_
    show Steps p.tables e below (T1.setTop (mkF m 4 #[.val (.long xq), .second, .unset] [(.int (lg2 xq))])) _
    refine XS.istoreN X1.here hx rfl (hb hby d_prog_5_method_3_4) rfl (l' := #[.val (.long xq), .second, .val (.int (lg2 xq))]) rfl ?_
    show Steps p.tables e below (T1.setTop (mkF m 5 #[.val (.long xq), .second, .val (.int (lg2 xq))] [])) _
    refine XS.iloadN X1.here hx rfl (hb hby d_prog_5_method_3_5) rfl ?_
    show Steps p.tables e below (T1.setTop (mkF m 6 #[.val (.long xq), .second, .val (.int (lg2 xq))] [(.int (lg2 xq))])) _
    refine XS.bipush X1.here hx rfl (hb hby d_prog_5_method_3_6) ?_
    show Steps p.tables e below (T1.setTop (mkF m 8 #[.val (.long xq), .second, .val (.int (lg2 xq))] [(.int (16 : Int32)), (.int (lg2 xq))])) _
    refine XS.imul X1.here hx rfl (hb hby d_prog_5_method_3_8) rfl ?_
    show Steps p.tables e below (T1.setTop (mkF m 9 #[.val (.long xq), .second, .val (.int (lg2 xq))] [(.int ((lg2 xq) * (16 : Int32)))])) _
    refine XS.lloadN X1.here hx rfl (hb hby d_prog_5_method_3_9) rfl ?_
    show Steps p.tables e below (T1.setTop (mkF m 10 #[.val (.long xq), .second, .val (.int (lg2 xq))] [(.long xq), (.int ((lg2 xq) * (16 : Int32)))])) _
    refine XS.iconst X1.here hx rfl (hb hby d_prog_5_method_3_10) ?_
    show Steps p.tables e below (T1.setTop (mkF m 11 #[.val (.long xq), .second, .val (.int (lg2 xq))] [(.int (4 : Int32)), (.long xq), (.int ((lg2 xq) * (16 : Int32)))])) _
    refine XS.lshl X1.here hx rfl (hb hby d_prog_5_method_3_11) rfl ?_
    show Steps p.tables e below (T1.setTop (mkF m 12 #[.val (.long xq), .second, .val (.int (lg2 xq))] [(.long (xq <<< ((4 : Int32) &&& 0x3f).toInt64)), (.int ((lg2 xq) * (16 : Int32)))])) _
    refine XS.iloadN X1.here hx rfl (hb hby d_prog_5_method_3_12) rfl ?_
    show Steps p.tables e below (T1.setTop (mkF m 13 #[.val (.long xq), .second, .val (.int (lg2 xq))] [(.int (lg2 xq)), (.long (xq <<< ((4 : Int32) &&& 0x3f).toInt64)), (.int ((lg2 xq) * (16 : Int32)))])) _
    refine XS.lushr X1.here hx rfl (hb hby d_prog_5_method_3_13) rfl ?_
    show Steps p.tables e below (T1.setTop (mkF m 14 #[.val (.long xq), .second, .val (.int (lg2 xq))] [(.long (topW xq)), (.int ((lg2 xq) * (16 : Int32)))])) _
    refine XS.l2i X1.here hx rfl (hb hby d_prog_5_method_3_14) rfl ?_
    show Steps p.tables e below (T1.setTop (mkF m 15 #[.val (.long xq), .second, .val (.int (lg2 xq))] [(.int ((topW xq).toInt32)), (.int ((lg2 xq) * (16 : Int32)))])) _
    refine XS.iadd X1.here hx rfl (hb hby d_prog_5_method_3_15) rfl ?_
    show Steps p.tables e below (T1.setTop (mkF m 16 #[.val (.long xq), .second, .val (.int (lg2 xq))] [(.int (((lg2 xq) * (16 : Int32)) + ((topW xq).toInt32)))])) _
    refine XS.bipush X1.here hx rfl (hb hby d_prog_5_method_3_16) ?_
    show Steps p.tables e below (T1.setTop (mkF m 18 #[.val (.long xq), .second, .val (.int (lg2 xq))] [(.int (16 : Int32)), (.int (((lg2 xq) * (16 : Int32)) + ((topW xq).toInt32)))])) _
    refine XS.isub X1.here hx rfl (hb hby d_prog_5_method_3_18) rfl ?_
    show Steps p.tables e below (T1.setTop (mkF m 19 #[.val (.long xq), .second, .val (.int (lg2 xq))] [(.int (bandF xq))])) _
    exact retI X1 hx Bd.returns (hb hby d_prog_5_method_3_19) hr
  · show Q_band Z xq h0 n0 _ T1.heap _
    exact ⟨rfl, N1, e1⟩
theorem d_prog_5_method_5_0 : decode prog_5_method_5_code 0 = .ok (.lload_n 0, 1) := by decide +kernel
theorem d_prog_5_method_5_1 : decode prog_5_method_5_code 1 = .ok (.ldc2_w 20, 3) := by decide +kernel
theorem d_prog_5_method_5_4 : decode prog_5_method_5_code 4 = .ok (.ldiv, 1) := by decide +kernel
theorem d_prog_5_method_5_5 : decode prog_5_method_5_code 5 = .ok (.l2i, 1) := by decide +kernel
theorem d_prog_5_method_5_6 : decode prog_5_method_5_code 6 = .ok (.istore_n 2, 1) := by decide +kernel
theorem d_prog_5_method_5_7 : decode prog_5_method_5_code 7 = .ok (.lload_n 0, 1) := by decide +kernel
theorem d_prog_5_method_5_8 : decode prog_5_method_5_code 8 = .ok (.ldc2_w 22, 3) := by decide +kernel
theorem d_prog_5_method_5_11 : decode prog_5_method_5_code 11 = .ok (.lcmp, 1) := by decide +kernel
theorem d_prog_5_method_5_12 : decode prog_5_method_5_code 12 = .ok (.ifCond .lt 19, 3) := by decide +kernel
theorem d_prog_5_method_5_15 : decode prog_5_method_5_code 15 = .ok (.sipush 1024, 3) := by decide +kernel
theorem d_prog_5_method_5_18 : decode prog_5_method_5_code 18 = .ok (.lload_n 0, 1) := by decide +kernel
theorem d_prog_5_method_5_19 : decode prog_5_method_5_code 19 = .ok (.invokestatic 24, 3) := by decide +kernel
theorem d_prog_5_method_5_22 : decode prog_5_method_5_code 22 = .ok (.iadd, 1) := by decide +kernel
theorem d_prog_5_method_5_23 : decode prog_5_method_5_code 23 = .ok (.ldc2_w 22, 3) := by decide +kernel
theorem d_prog_5_method_5_26 : decode prog_5_method_5_code 26 = .ok (.invokestatic 24, 3) := by decide +kernel
theorem d_prog_5_method_5_29 : decode prog_5_method_5_code 29 = .ok (.isub, 1) := by decide +kernel
theorem d_prog_5_method_5_30 : decode prog_5_method_5_code 30 = .ok (.istore_n 2, 1) := by decide +kernel
theorem d_prog_5_method_5_31 : decode prog_5_method_5_code 31 = .ok (.iload_n 2, 1) := by decide +kernel
theorem d_prog_5_method_5_32 : decode prog_5_method_5_code 32 = .ok (.ireturn, 1) := by decide +kernel
theorem ef_cls (m : MethodId) (xq : Int64) : entryFrame m #[(.long xq)] 3 = mkF m 0 #[.val (.long xq), .second, .unset] [] := by first | (simp [entryFrame, mkF, argsToLocals, Value.category]; done) | rfl
def Q_cls (Z : State) (xq : Int64) (h0 : Heap) (n0 : Nat) (v : Option Value) (h : Heap) (L : List Loc) : Prop := v = some (.int (clsF xq)) ∧ Fr n0 L ∧ h = h0
set_option maxRecDepth 65536 in
set_option maxHeartbeats 40000000 in
theorem rm_cls (l : Launch) (Z : State) (a0 : Array Value) (hw : ∀ d ∈ tables_1, d.before a0 Z = true) (ws : List Jvm.Cond) (xq : Int64) (h0 : Heap) (n0 : Nat) (Z0 : n0 ≤ h0.size) :
    MetFree l (⟨"com/example/outboard/outboard/SizeClasses", "classOf", "(J)I"⟩ : MethodName) (head1 (Jvm.Cond.code (⟨"com/example/outboard/outboard/SizeClasses", "classOf", "(J)I"⟩ : MethodName) prog_5_method_5_code 3 (some .int) :: ws) ({ frames := 4, cells := 0, slots := 0, locals := 57 } : Room)) (fun a U => a = #[(.long xq)] ∧ Z.Warmed39 U.vm ∧ U.heap = h0) (fun _ _ _ _ _ => True) (fun _ U o U' => ∃ v L, o = .returned v ∧ Q_cls Z xq h0 n0 v U'.heap L ∧ FrameEnd U o U' L ({ frames := 4, cells := 0, slots := 0, locals := 57 } : Room).cells ({ frames := 4, cells := 0, slots := 0, locals := 57 } : Room).slots) := by
  refine MetFree.of_bodySF (plainFor_of_name pn_2) hisR ?_
  intro p e s m args below meth c s₁ Bd hml0 hP hK
  obtain ⟨rfl, hZ, hh⟩ := hP
  have hx := Bd.exec
  have hby := Bd.bytes
  have hml : c.maxLocals = 3 := hml0
  have hown : s.vm.findClass "com/example/outboard/outboard/SizeClasses" = some m.cls := findClass_of_methodNamed Bd.named
  have X0 : Stand p l e ({ frames := 4, cells := 0, slots := 0, locals := 57 } : Room) s m #[(.long xq)] below meth c s₁ [] 0 0 := Stand.of_body Bd
  have e0 : s₁.heap = h0 := by rw [← hh, Bd.state]; rfl
  have N0 := Fr.nil n0
  have pre0 : ∀ t, Steps p.tables e below (s₁.setTop (mkF m 0 #[.val (.long xq), .second, .unset] [])) t → Steps p.tables e below (s₁.setTop (entryFrame m #[(.long xq)] 3)) t := fun t k => castTop (ef_cls m xq) k
  by_cases hc12 : xq < (8192 : Int64)
  · obtain ⟨fs, hr, hrun, hended, hW, hsame⟩ := X0.leave (v := some (.int (clsF xq))) (fun h => by rw [Bd.returns] at h; cases h)
    refine ⟨_, _, pre0 _ ?_, hrun, hended, _, _, rfl, ?_, ⟨_, rfl⟩, hW, hsame.mono (by decide) (by decide)⟩
    · show Steps p.tables e below (s₁.setTop (mkF m 0 #[.val (.long xq), .second, .unset] [])) _
      refine XS.lloadN X0.here hx rfl (hb hby d_prog_5_method_5_0) rfl ?_
      show Steps p.tables e below (s₁.setTop (mkF m 1 #[.val (.long xq), .second, .unset] [(.long xq)])) _
      refine X0.ldc2Long hx hown (mvT hZ (hw _ (List.mem_of_getElem? (i := 6) rfl))) (g := (mkF m 1 #[.val (.long xq), .second, .unset] [(.long xq)])) rfl (hb hby d_prog_5_method_5_1) _ ?_
      show Steps p.tables e below (s₁.setTop (mkF m 4 #[.val (.long xq), .second, .unset] [(.long (8 : Int64)), (.long xq)])) _
      refine XS.ldiv X0.here hx rfl (hb hby d_prog_5_method_5_4) rfl (by decide) ?_
      show Steps p.tables e below (s₁.setTop (mkF m 5 #[.val (.long xq), .second, .unset] [(.long (xq / (8 : Int64)))])) _
      refine XS.l2i X0.here hx rfl (hb hby d_prog_5_method_5_5) rfl ?_
      show Steps p.tables e below (s₁.setTop (mkF m 6 #[.val (.long xq), .second, .unset] [(.int ((xq / (8 : Int64)).toInt32))])) _
      refine XS.istoreN X0.here hx rfl (hb hby d_prog_5_method_5_6) rfl (l' := #[.val (.long xq), .second, .val (.int ((xq / (8 : Int64)).toInt32))]) rfl ?_
      show Steps p.tables e below (s₁.setTop (mkF m 7 #[.val (.long xq), .second, .val (.int ((xq / (8 : Int64)).toInt32))] [])) _
      refine XS.lloadN X0.here hx rfl (hb hby d_prog_5_method_5_7) rfl ?_
      show Steps p.tables e below (s₁.setTop (mkF m 8 #[.val (.long xq), .second, .val (.int ((xq / (8 : Int64)).toInt32))] [(.long xq)])) _
      refine X0.ldc2Long hx hown (mvT hZ (hw _ (List.mem_of_getElem? (i := 7) rfl))) (g := (mkF m 8 #[.val (.long xq), .second, .val (.int ((xq / (8 : Int64)).toInt32))] [(.long xq)])) rfl (hb hby d_prog_5_method_5_8) _ ?_
      show Steps p.tables e below (s₁.setTop (mkF m 11 #[.val (.long xq), .second, .val (.int ((xq / (8 : Int64)).toInt32))] [(.long (8192 : Int64)), (.long xq)])) _
      refine XS.lcmp X0.here hx rfl (hb hby d_prog_5_method_5_11) rfl ?_
      show Steps p.tables e below (s₁.setTop (mkF m 12 #[.val (.long xq), .second, .val (.int ((xq / (8 : Int64)).toInt32))] [(.int (lcmpW xq (8192 : Int64)))])) _
      refine XS.ifYes X0.here hx rfl (pc0 := 12) (pc' := 31) rfl (hb hby d_prog_5_method_5_12) rfl ((if0 _ _).trans (tlt ((lw_lt _ _).2 hc12)).1) (by decide) (by decide) ?_
      show Steps p.tables e below (s₁.setTop (mkF m 31 #[.val (.long xq), .second, .val (.int ((xq / (8 : Int64)).toInt32))] [])) _
      refine XS.iloadN X0.here hx rfl (hb hby d_prog_5_method_5_31) rfl ?_
      show Steps p.tables e below (s₁.setTop (mkF m 32 #[.val (.long xq), .second, .val (.int ((xq / (8 : Int64)).toInt32))] [(.int ((xq / (8 : Int64)).toInt32))])) _
      exact retI X0 hx Bd.returns (hb hby d_prog_5_method_5_32) (by rw [show ((xq / (8 : Int64)).toInt32) = (clsF xq) from by simp only [clsF, hc12, eq_self, if_true, if_false]]; exact hr)
    · show Q_cls Z xq h0 n0 _ s₁.heap _
      exact ⟨rfl, N0, e0⟩
  · obtain ⟨_, _, ⟨T1, L1, k1, n1⟩, -, X1, ⟨Lc1, hQ1, l1, y1, z1⟩, st1⟩ := Jvm.LawKit.callS X0 hx (y := (⟨"com/example/outboard/outboard/SizeClasses", "band", "(J)I"⟩ : MethodName)) hown (mvT hZ (hw _ (List.mem_of_getElem? (i := 10) rfl))) (mvT hZ (hw _ (List.mem_of_getElem? (i := 11) rfl))) (mvT hZ (hw _ (List.mem_of_getElem? (i := 4) rfl))) (mvT hZ (hw _ (List.mem_of_getElem? (i := 12) rfl))) (by decide) (backOf (W := 1) (rm_band l Z a0 hw [] xq h0 n0 Z0) hZ (hw _ (List.mem_of_getElem? (i := 12) rfl)) (hw _ (List.mem_of_getElem? (i := 4) rfl)) (by decide) (by decide)) (g := (mkF m 19 #[.val (.long xq), .second, .val (.int ((xq / (8 : Int64)).toInt32))] [(.long xq), (.int (1024 : Int32))])) rfl (by rw [hml]; rfl) (argsL := [(.long xq)]) (rest := [(.int (1024 : Int32))]) (lenOf pd_1 rfl) rfl (by show 2 * 0 + _ ≤ _; exact Nat.le_of_eq rfl) (hb hby d_prog_5_method_5_19) (fun _ _ => ⟨rfl, e0, (by decide : 0 + 0 ≤ _), (by decide : 0 + 0 ≤ _)⟩)
    dsimp only [Pt.U, Pt.locs, Pt.cells, Pt.slots] at X1 l1 y1 z1 st1 hQ1
    subst l1 y1 z1
    obtain ⟨rfl, N1q, e1⟩ := hQ1
    have N1 := Fr.app N0 N1q
    obtain ⟨_, _, ⟨T2, L2, k2, n2⟩, -, X2, ⟨Lc2, hQ2, l2, y2, z2⟩, st2⟩ := Jvm.LawKit.callS X1 hx (y := (⟨"com/example/outboard/outboard/SizeClasses", "band", "(J)I"⟩ : MethodName)) hown (mvT hZ (hw _ (List.mem_of_getElem? (i := 10) rfl))) (mvT hZ (hw _ (List.mem_of_getElem? (i := 11) rfl))) (mvT hZ (hw _ (List.mem_of_getElem? (i := 4) rfl))) (mvT hZ (hw _ (List.mem_of_getElem? (i := 12) rfl))) (by decide) (backOf (W := 1) (rm_band l Z a0 hw [] (8192 : Int64) h0 n0 Z0) hZ (hw _ (List.mem_of_getElem? (i := 12) rfl)) (hw _ (List.mem_of_getElem? (i := 4) rfl)) (by decide) (by decide)) (g := (mkF m 26 #[.val (.long xq), .second, .val (.int ((xq / (8 : Int64)).toInt32))] [(.long (8192 : Int64)), (.int ((1024 : Int32) + (bandF xq)))])) rfl (by rw [hml]; rfl) (argsL := [(.long (8192 : Int64))]) (rest := [(.int ((1024 : Int32) + (bandF xq)))]) (lenOf pd_1 rfl) rfl (by show 2 * 0 + _ ≤ _; exact Nat.le_of_eq rfl) (hb hby d_prog_5_method_5_26) (fun _ _ => ⟨rfl, e1, (by decide : 0 + 0 ≤ _), (by decide : 0 + 0 ≤ _)⟩)
    dsimp only [Pt.U, Pt.locs, Pt.cells, Pt.slots] at X2 l2 y2 z2 st2 hQ2
    subst l2 y2 z2
    obtain ⟨rfl, N2q, e2⟩ := hQ2
    have N2 := Fr.app N1 N2q
    obtain ⟨fs, hr, hrun, hended, hW, hsame⟩ := X2.leave (v := some (.int (clsF xq))) (fun h => by rw [Bd.returns] at h; cases h)
    refine ⟨_, _, pre0 _ ?_, hrun, hended, _, _, rfl, ?_, ⟨_, rfl⟩, hW, hsame.mono (by decide) (by decide)⟩
    · show Steps p.tables e below (s₁.setTop (mkF m 0 #[.val (.long xq), .second, .unset] [])) _
      refine XS.lloadN X0.here hx rfl (hb hby d_prog_5_method_5_0) rfl ?_
      show Steps p.tables e below (s₁.setTop (mkF m 1 #[.val (.long xq), .second, .unset] [(.long xq)])) _
      refine X0.ldc2Long hx hown (mvT hZ (hw _ (List.mem_of_getElem? (i := 6) rfl))) (g := (mkF m 1 #[.val (.long xq), .second, .unset] [(.long xq)])) rfl (hb hby d_prog_5_method_5_1) _ ?_
      show Steps p.tables e below (s₁.setTop (mkF m 4 #[.val (.long xq), .second, .unset] [(.long (8 : Int64)), (.long xq)])) _
      refine XS.ldiv X0.here hx rfl (hb hby d_prog_5_method_5_4) rfl (by decide) ?_
      show Steps p.tables e below (s₁.setTop (mkF m 5 #[.val (.long xq), .second, .unset] [(.long (xq / (8 : Int64)))])) _
      refine XS.l2i X0.here hx rfl (hb hby d_prog_5_method_5_5) rfl ?_
      show Steps p.tables e below (s₁.setTop (mkF m 6 #[.val (.long xq), .second, .unset] [(.int ((xq / (8 : Int64)).toInt32))])) _
      refine XS.istoreN X0.here hx rfl (hb hby d_prog_5_method_5_6) rfl (l' := #[.val (.long xq), .second, .val (.int ((xq / (8 : Int64)).toInt32))]) rfl ?_
      show Steps p.tables e below (s₁.setTop (mkF m 7 #[.val (.long xq), .second, .val (.int ((xq / (8 : Int64)).toInt32))] [])) _
      refine XS.lloadN X0.here hx rfl (hb hby d_prog_5_method_5_7) rfl ?_
      show Steps p.tables e below (s₁.setTop (mkF m 8 #[.val (.long xq), .second, .val (.int ((xq / (8 : Int64)).toInt32))] [(.long xq)])) _
      refine X0.ldc2Long hx hown (mvT hZ (hw _ (List.mem_of_getElem? (i := 7) rfl))) (g := (mkF m 8 #[.val (.long xq), .second, .val (.int ((xq / (8 : Int64)).toInt32))] [(.long xq)])) rfl (hb hby d_prog_5_method_5_8) _ ?_
      show Steps p.tables e below (s₁.setTop (mkF m 11 #[.val (.long xq), .second, .val (.int ((xq / (8 : Int64)).toInt32))] [(.long (8192 : Int64)), (.long xq)])) _
      refine XS.lcmp X0.here hx rfl (hb hby d_prog_5_method_5_11) rfl ?_
      show Steps p.tables e below (s₁.setTop (mkF m 12 #[.val (.long xq), .second, .val (.int ((xq / (8 : Int64)).toInt32))] [(.int (lcmpW xq (8192 : Int64)))])) _
      refine XS.ifNo X0.here hx rfl (hb hby d_prog_5_method_5_12) rfl ((if0 _ _).trans (flt (fun q => hc12 ((lw_lt _ _).1 q))).1) ?_
      show Steps p.tables e below (s₁.setTop (mkF m 15 #[.val (.long xq), .second, .val (.int ((xq / (8 : Int64)).toInt32))] [])) _
      refine XS.sipush X0.here hx rfl (hb hby d_prog_5_method_5_15) ?_
      show Steps p.tables e below (s₁.setTop (mkF m 18 #[.val (.long xq), .second, .val (.int ((xq / (8 : Int64)).toInt32))] [(.int (1024 : Int32))])) _
      refine XS.lloadN X0.here hx rfl (hb hby d_prog_5_method_5_18) rfl ?_
      show Steps p.tables e below (s₁.setTop (mkF m 19 #[.val (.long xq), .second, .val (.int ((xq / (8 : Int64)).toInt32))] [(.long xq), (.int (1024 : Int32))])) _
      refine st1 _ ?_
      show Steps p.tables e below (T1.setTop (mkF m 22 #[.val (.long xq), .second, .val (.int ((xq / (8 : Int64)).toInt32))] [(.int (bandF xq)), (.int (1024 : Int32))])) _
      refine XS.iadd X1.here hx rfl (hb hby d_prog_5_method_5_22) rfl ?_
      show Steps p.tables e below (T1.setTop (mkF m 23 #[.val (.long xq), .second, .val (.int ((xq / (8 : Int64)).toInt32))] [(.int ((1024 : Int32) + (bandF xq)))])) _
      refine X1.ldc2Long hx hown (mvT hZ (hw _ (List.mem_of_getElem? (i := 7) rfl))) (g := (mkF m 23 #[.val (.long xq), .second, .val (.int ((xq / (8 : Int64)).toInt32))] [(.int ((1024 : Int32) + (bandF xq)))])) rfl (hb hby d_prog_5_method_5_23) _ ?_
      show Steps p.tables e below (T1.setTop (mkF m 26 #[.val (.long xq), .second, .val (.int ((xq / (8 : Int64)).toInt32))] [(.long (8192 : Int64)), (.int ((1024 : Int32) + (bandF xq)))])) _
      refine st2 _ ?_
      show Steps p.tables e below (T2.setTop (mkF m 29 #[.val (.long xq), .second, .val (.int ((xq / (8 : Int64)).toInt32))] [(.int (bandF (8192 : Int64))), (.int ((1024 : Int32) + (bandF xq)))])) _
      refine XS.isub X2.here hx rfl (hb hby d_prog_5_method_5_29) rfl ?_
      show Steps p.tables e below (T2.setTop (mkF m 30 #[.val (.long xq), .second, .val (.int ((xq / (8 : Int64)).toInt32))] [(.int (((1024 : Int32) + (bandF xq)) - (bandF (8192 : Int64))))])) _
      refine XS.istoreN X2.here hx rfl (hb hby d_prog_5_method_5_30) rfl (l' := #[.val (.long xq), .second, .val (.int (((1024 : Int32) + (bandF xq)) - (bandF (8192 : Int64))))]) rfl ?_
      show Steps p.tables e below (T2.setTop (mkF m 31 #[.val (.long xq), .second, .val (.int (((1024 : Int32) + (bandF xq)) - (bandF (8192 : Int64))))] [])) _
      refine XS.iloadN X2.here hx rfl (hb hby d_prog_5_method_5_31) rfl ?_
      show Steps p.tables e below (T2.setTop (mkF m 32 #[.val (.long xq), .second, .val (.int (((1024 : Int32) + (bandF xq)) - (bandF (8192 : Int64))))] [(.int (((1024 : Int32) + (bandF xq)) - (bandF (8192 : Int64))))])) _
      exact retI X2 hx Bd.returns (hb hby d_prog_5_method_5_32) (by rw [show (((1024 : Int32) + (bandF xq)) - (bandF (8192 : Int64))) = (clsF xq) from by simp only [clsF, hc12, eq_self, if_true, if_false]]; exact hr)
    · show Q_cls Z xq h0 n0 _ T2.heap _
      exact ⟨rfl, N2, e2⟩
theorem pn_3 : plainName "com/example/outboard/outboard/SizeClassesClassOfPinLaw" = true := by first | (simp [plainName, overriddenIn]; done) | decide +kernel
theorem ef_law (m : MethodId) (xs : Int32) (xb : Int32) (xc : Int32) (xd : Int64) : entryFrame m #[(.int xs), (.int xb), (.int xc), (.long xd)] maxLocals = mkF m 0 #[.val (.int xs), .val (.int xb), .val (.int xc), .val (.long xd), .second, .unset, .unset, .unset, .unset, .unset, .unset] [] := by first | (simp [entryFrame, mkF, argsToLocals, Value.category, maxLocals]; done) | rfl
def Q_law (Z : State) (xs : Int32) (xb : Int32) (xc : Int32) (xd : Int64) (h0 : Heap) (n0 : Nat) (v : Option Value) (h : Heap) (L : List Loc) : Prop := v = some (.int (lawF xs xb xc xd)) ∧ Fr n0 L ∧ True
set_option maxRecDepth 65536 in
set_option maxHeartbeats 40000000 in
theorem rm_law (l : Launch) (Z : State) (a0 : Array Value) (hw : ∀ d ∈ tables_1, d.before a0 Z = true) (ws : List Jvm.Cond) (xs : Int32) (xb : Int32) (xc : Int32) (xd : Int64) (h0 : Heap) (n0 : Nat) (Z0 : n0 ≤ h0.size) :
    MetFree l x (head1 (Jvm.Cond.code x code maxLocals ret :: ws) room_1) (fun a U => a = #[(.int xs), (.int xb), (.int xc), (.long xd)] ∧ Z.Warmed39 U.vm ∧ U.heap = h0) (fun _ _ _ _ _ => True) (fun _ U o U' => ∃ v L, o = .returned v ∧ Q_law Z xs xb xc xd h0 n0 v U'.heap L ∧ FrameEnd U o U' L room_1.cells room_1.slots) := by
  refine MetFree.of_bodySF (plainFor_of_name pn_3) hisR ?_
  intro p e s m args below meth c s₁ Bd hml0 hP hK
  obtain ⟨rfl, hZ, hh⟩ := hP
  have hx := Bd.exec
  have hby := Bd.bytes
  have hml : c.maxLocals = 11 := hml0
  have hown : s.vm.findClass "com/example/outboard/outboard/SizeClassesClassOfPinLaw" = some m.cls := findClass_of_methodNamed Bd.named
  have X0 : Stand p l e room_1 s m #[(.int xs), (.int xb), (.int xc), (.long xd)] below meth c s₁ [] 0 0 := Stand.of_body Bd
  have e0 : s₁.heap = h0 := by rw [← hh, Bd.state]; rfl
  have N0 := Fr.nil n0
  have pre0 : ∀ t, Steps p.tables e below (s₁.setTop (mkF m 0 #[.val (.int xs), .val (.int xb), .val (.int xc), .val (.long xd), .second, .unset, .unset, .unset, .unset, .unset, .unset] [])) t → Steps p.tables e below (s₁.setTop (entryFrame m #[(.int xs), (.int xb), (.int xc), (.long xd)] maxLocals)) t := fun t k => castTop (ef_law m xs xb xc xd) k
  by_cases hc3 : (xs &&& (1 : Int32)) = (0 : Int32)
  · obtain ⟨_, _, ⟨T1, L1, k1, n1⟩, -, X1, ⟨Lc1, hQ1, l1, y1, z1⟩, st1⟩ := Jvm.LawKit.callS X0 hx (y := (⟨"com/example/outboard/outboard/SizeClasses", "classOf", "(J)I"⟩ : MethodName)) hown (mvT hZ (hw _ (List.mem_of_getElem? (i := 2) rfl))) (mvT hZ (hw _ (List.mem_of_getElem? (i := 3) rfl))) (mvT hZ (hw _ (List.mem_of_getElem? (i := 4) rfl))) (mvT hZ (hw _ (List.mem_of_getElem? (i := 5) rfl))) (by decide) (backOf (W := 0) (rm_cls l Z a0 hw [] ((8 : Int64) * ((kF xb).toInt64)) h0 n0 Z0) hZ (hw _ (List.mem_of_getElem? (i := 5) rfl)) (hw _ (List.mem_of_getElem? (i := 4) rfl)) (by decide) (by decide)) (g := (mkF m 25 #[.val (.int xs), .val (.int xb), .val (.int xc), .val (.long xd), .second, .val (.int (kF xb)), .unset, .unset, .unset, .unset, .unset] [(.long ((8 : Int64) * ((kF xb).toInt64)))])) rfl (by rw [hml]; rfl) (argsL := [(.long ((8 : Int64) * ((kF xb).toInt64)))]) (rest := []) (lenOf pd_1 rfl) rfl (by show 2 * 0 + _ ≤ _; exact Nat.le_of_eq rfl) (hb hby at_25) (fun _ _ => ⟨rfl, e0, (by decide : 0 + 0 ≤ _), (by decide : 0 + 0 ≤ _)⟩)
    dsimp only [Pt.U, Pt.locs, Pt.cells, Pt.slots] at X1 l1 y1 z1 st1 hQ1
    subst l1 y1 z1
    obtain ⟨rfl, N1q, e1⟩ := hQ1
    have N1 := Fr.app N0 N1q
    obtain ⟨fs, hr, hrun, hended, hW, hsame⟩ := X1.leave (v := some (.int (lawF xs xb xc xd))) (fun h => by rw [Bd.returns] at h; cases h)
    refine ⟨_, _, pre0 _ ?_, hrun, hended, _, _, rfl, ?_, ⟨_, rfl⟩, hW, hsame.mono (by decide) (by decide)⟩
    · show Steps p.tables e below (s₁.setTop (mkF m 0 #[.val (.int xs), .val (.int xb), .val (.int xc), .val (.long xd), .second, .unset, .unset, .unset, .unset, .unset, .unset] [])) _
      refine XS.iloadN X0.here hx rfl (hb hby at_0) rfl ?_
      show Steps p.tables e below (s₁.setTop (mkF m 1 #[.val (.int xs), .val (.int xb), .val (.int xc), .val (.long xd), .second, .unset, .unset, .unset, .unset, .unset, .unset] [(.int xs)])) _
      refine XS.iconst X0.here hx rfl (hb hby at_1) ?_
      show Steps p.tables e below (s₁.setTop (mkF m 2 #[.val (.int xs), .val (.int xb), .val (.int xc), .val (.long xd), .second, .unset, .unset, .unset, .unset, .unset, .unset] [(.int (1 : Int32)), (.int xs)])) _
      refine XS.iand X0.here hx rfl (hb hby at_2) rfl ?_
      show Steps p.tables e below (s₁.setTop (mkF m 3 #[.val (.int xs), .val (.int xb), .val (.int xc), .val (.long xd), .second, .unset, .unset, .unset, .unset, .unset, .unset] [(.int (xs &&& (1 : Int32)))])) _
      refine XS.ifNo X0.here hx rfl (hb hby at_3) rfl ((if0 _ _).trans (teq hc3).2) ?_
      show Steps p.tables e below (s₁.setTop (mkF m 6 #[.val (.int xs), .val (.int xb), .val (.int xc), .val (.long xd), .second, .unset, .unset, .unset, .unset, .unset, .unset] [])) _
      refine XS.iconst X0.here hx rfl (hb hby at_6) ?_
      show Steps p.tables e below (s₁.setTop (mkF m 7 #[.val (.int xs), .val (.int xb), .val (.int xc), .val (.long xd), .second, .unset, .unset, .unset, .unset, .unset, .unset] [(.int (1 : Int32))])) _
      refine XS.iloadN X0.here hx rfl (hb hby at_7) rfl ?_
      show Steps p.tables e below (s₁.setTop (mkF m 8 #[.val (.int xs), .val (.int xb), .val (.int xc), .val (.long xd), .second, .unset, .unset, .unset, .unset, .unset, .unset] [(.int xb), (.int (1 : Int32))])) _
      refine X0.ldcInt hx hown (mvT hZ (hw _ (List.mem_of_getElem? (i := 0) rfl))) (g := (mkF m 8 #[.val (.int xs), .val (.int xb), .val (.int xc), .val (.long xd), .second, .unset, .unset, .unset, .unset, .unset, .unset] [(.int xb), (.int (1 : Int32))])) rfl (hb hby at_8) _ ?_
      show Steps p.tables e below (s₁.setTop (mkF m 10 #[.val (.int xs), .val (.int xb), .val (.int xc), .val (.long xd), .second, .unset, .unset, .unset, .unset, .unset, .unset] [(.int (2147483647 : Int32)), (.int xb), (.int (1 : Int32))])) _
      refine XS.iand X0.here hx rfl (hb hby at_10) rfl ?_
      show Steps p.tables e below (s₁.setTop (mkF m 11 #[.val (.int xs), .val (.int xb), .val (.int xc), .val (.long xd), .second, .unset, .unset, .unset, .unset, .unset, .unset] [(.int (xb &&& (2147483647 : Int32))), (.int (1 : Int32))])) _
      refine XS.sipush X0.here hx rfl (hb hby at_11) ?_
      show Steps p.tables e below (s₁.setTop (mkF m 14 #[.val (.int xs), .val (.int xb), .val (.int xc), .val (.long xd), .second, .unset, .unset, .unset, .unset, .unset, .unset] [(.int (1023 : Int32)), (.int (xb &&& (2147483647 : Int32))), (.int (1 : Int32))])) _
      refine XS.irem X0.here hx rfl (hb hby at_14) rfl (by decide) ?_
      show Steps p.tables e below (s₁.setTop (mkF m 15 #[.val (.int xs), .val (.int xb), .val (.int xc), .val (.long xd), .second, .unset, .unset, .unset, .unset, .unset, .unset] [(.int ((xb &&& (2147483647 : Int32)) - ((xb &&& (2147483647 : Int32)) / (1023 : Int32)) * (1023 : Int32))), (.int (1 : Int32))])) _
      refine XS.iadd X0.here hx rfl (hb hby at_15) rfl ?_
      show Steps p.tables e below (s₁.setTop (mkF m 16 #[.val (.int xs), .val (.int xb), .val (.int xc), .val (.long xd), .second, .unset, .unset, .unset, .unset, .unset, .unset] [(.int ((1 : Int32) + ((xb &&& (2147483647 : Int32)) - ((xb &&& (2147483647 : Int32)) / (1023 : Int32)) * (1023 : Int32))))])) _
      refine XS.istore X0.here hx rfl (hb hby at_16) rfl (l' := #[.val (.int xs), .val (.int xb), .val (.int xc), .val (.long xd), .second, .val (.int (kF xb)), .unset, .unset, .unset, .unset, .unset]) rfl ?_
      show Steps p.tables e below (s₁.setTop (mkF m 18 #[.val (.int xs), .val (.int xb), .val (.int xc), .val (.long xd), .second, .val (.int (kF xb)), .unset, .unset, .unset, .unset, .unset] [])) _
      refine X0.ldc2Long hx hown (mvT hZ (hw _ (List.mem_of_getElem? (i := 1) rfl))) (g := (mkF m 18 #[.val (.int xs), .val (.int xb), .val (.int xc), .val (.long xd), .second, .val (.int (kF xb)), .unset, .unset, .unset, .unset, .unset] [])) rfl (hb hby at_18) _ ?_
      show Steps p.tables e below (s₁.setTop (mkF m 21 #[.val (.int xs), .val (.int xb), .val (.int xc), .val (.long xd), .second, .val (.int (kF xb)), .unset, .unset, .unset, .unset, .unset] [(.long (8 : Int64))])) _
      refine XS.iload X0.here hx rfl (hb hby at_21) rfl ?_
      show Steps p.tables e below (s₁.setTop (mkF m 23 #[.val (.int xs), .val (.int xb), .val (.int xc), .val (.long xd), .second, .val (.int (kF xb)), .unset, .unset, .unset, .unset, .unset] [(.int (kF xb)), (.long (8 : Int64))])) _
      refine XS.i2l X0.here hx rfl (hb hby at_23) rfl ?_
      show Steps p.tables e below (s₁.setTop (mkF m 24 #[.val (.int xs), .val (.int xb), .val (.int xc), .val (.long xd), .second, .val (.int (kF xb)), .unset, .unset, .unset, .unset, .unset] [(.long ((kF xb).toInt64)), (.long (8 : Int64))])) _
      refine XS.lmul X0.here hx rfl (hb hby at_24) rfl ?_
      show Steps p.tables e below (s₁.setTop (mkF m 25 #[.val (.int xs), .val (.int xb), .val (.int xc), .val (.long xd), .second, .val (.int (kF xb)), .unset, .unset, .unset, .unset, .unset] [(.long ((8 : Int64) * ((kF xb).toInt64)))])) _
      refine st1 _ ?_
      show Steps p.tables e below (T1.setTop (mkF m 28 #[.val (.int xs), .val (.int xb), .val (.int xc), .val (.long xd), .second, .val (.int (kF xb)), .unset, .unset, .unset, .unset, .unset] [(.int (clsF ((8 : Int64) * ((kF xb).toInt64))))])) _
      refine XS.iload X1.here hx rfl (hb hby at_28) rfl ?_
      show Steps p.tables e below (T1.setTop (mkF m 30 #[.val (.int xs), .val (.int xb), .val (.int xc), .val (.long xd), .second, .val (.int (kF xb)), .unset, .unset, .unset, .unset, .unset] [(.int (kF xb)), (.int (clsF ((8 : Int64) * ((kF xb).toInt64))))])) _
      by_cases h30 : (clsF ((8 : Int64) * ((kF xb).toInt64))) = (kF xb)
      · refine XS.icmpNo X1.here hx rfl (hb hby at_30) rfl (teq h30).2 ?_
        show Steps p.tables e below (T1.setTop (mkF m 33 #[.val (.int xs), .val (.int xb), .val (.int xc), .val (.long xd), .second, .val (.int (kF xb)), .unset, .unset, .unset, .unset, .unset] [])) _
        refine XS.iconst X1.here hx rfl (hb hby at_33) ?_
        show Steps p.tables e below (T1.setTop (mkF m 34 #[.val (.int xs), .val (.int xb), .val (.int xc), .val (.long xd), .second, .val (.int (kF xb)), .unset, .unset, .unset, .unset, .unset] [(.int (1 : Int32))])) _
        refine XS.goto X1.here hx rfl (pc0 := 34) (pc' := 38) rfl (hb hby at_34) (by decide) (by decide) ?_
        show Steps p.tables e below (T1.setTop (mkF m 38 #[.val (.int xs), .val (.int xb), .val (.int xc), .val (.long xd), .second, .val (.int (kF xb)), .unset, .unset, .unset, .unset, .unset] [(.int (1 : Int32))])) _
        exact retN X1 hx (t := .boolean) Bd.returns (by simp) (hb hby at_38) (by rw [show nar .boolean (1 : Int32) = (lawF xs xb xc xd) from (own_nar1).trans (by simp only [lawF, hc3, h30, eq_self, if_true, if_false])]; exact hr)
      · refine XS.icmpYes X1.here hx rfl (pc0 := 30) (pc' := 37) rfl (hb hby at_30) rfl (feq h30).2 (by decide) (by decide) ?_
        show Steps p.tables e below (T1.setTop (mkF m 37 #[.val (.int xs), .val (.int xb), .val (.int xc), .val (.long xd), .second, .val (.int (kF xb)), .unset, .unset, .unset, .unset, .unset] [])) _
        refine XS.iconst X1.here hx rfl (hb hby at_37) ?_
        show Steps p.tables e below (T1.setTop (mkF m 38 #[.val (.int xs), .val (.int xb), .val (.int xc), .val (.long xd), .second, .val (.int (kF xb)), .unset, .unset, .unset, .unset, .unset] [(.int (0 : Int32))])) _
        exact retN X1 hx (t := .boolean) Bd.returns (by simp) (hb hby at_38) (by rw [show nar .boolean (0 : Int32) = (lawF xs xb xc xd) from (own_nar0).trans (by simp only [lawF, hc3, h30, eq_self, if_true, if_false])]; exact hr)
    · show Q_law Z xs xb xc xd h0 n0 _ T1.heap _
      exact ⟨rfl, N1, trivial⟩
  · obtain ⟨_, _, ⟨T2, L2, k2, n2⟩, -, X2, ⟨Lc2, hQ2, l2, y2, z2⟩, st2⟩ := Jvm.LawKit.callS X0 hx (y := (⟨"com/example/outboard/outboard/SizeClasses", "classOf", "(J)I"⟩ : MethodName)) hown (mvT hZ (hw _ (List.mem_of_getElem? (i := 2) rfl))) (mvT hZ (hw _ (List.mem_of_getElem? (i := 3) rfl))) (mvT hZ (hw _ (List.mem_of_getElem? (i := 4) rfl))) (mvT hZ (hw _ (List.mem_of_getElem? (i := 5) rfl))) (by decide) (backOf (W := 0) (rm_cls l Z a0 hw [] (sizeF xb xc xd) h0 n0 Z0) hZ (hw _ (List.mem_of_getElem? (i := 5) rfl)) (hw _ (List.mem_of_getElem? (i := 4) rfl)) (by decide) (by decide)) (g := (mkF m 92 #[.val (.int xs), .val (.int xb), .val (.int xc), .val (.long xd), .second, .val (.int (pF xc)), .val (.int (mF xb)), .val (.long (lowF xc xd)), .second, .val (.long (sizeF xb xc xd)), .second] [(.long (sizeF xb xc xd))])) rfl (by rw [hml]; rfl) (argsL := [(.long (sizeF xb xc xd))]) (rest := []) (lenOf pd_1 rfl) rfl (by show 2 * 0 + _ ≤ _; exact Nat.le_of_eq rfl) (hb hby at_92) (fun _ _ => ⟨rfl, e0, (by decide : 0 + 0 ≤ _), (by decide : 0 + 0 ≤ _)⟩)
    dsimp only [Pt.U, Pt.locs, Pt.cells, Pt.slots] at X2 l2 y2 z2 st2 hQ2
    subst l2 y2 z2
    obtain ⟨rfl, N2q, e2⟩ := hQ2
    have N2 := Fr.app N0 N2q
    obtain ⟨fs, hr, hrun, hended, hW, hsame⟩ := X2.leave (v := some (.int (lawF xs xb xc xd))) (fun h => by rw [Bd.returns] at h; cases h)
    refine ⟨_, _, pre0 _ ?_, hrun, hended, _, _, rfl, ?_, ⟨_, rfl⟩, hW, hsame.mono (by decide) (by decide)⟩
    · show Steps p.tables e below (s₁.setTop (mkF m 0 #[.val (.int xs), .val (.int xb), .val (.int xc), .val (.long xd), .second, .unset, .unset, .unset, .unset, .unset, .unset] [])) _
      refine XS.iloadN X0.here hx rfl (hb hby at_0) rfl ?_
      show Steps p.tables e below (s₁.setTop (mkF m 1 #[.val (.int xs), .val (.int xb), .val (.int xc), .val (.long xd), .second, .unset, .unset, .unset, .unset, .unset, .unset] [(.int xs)])) _
      refine XS.iconst X0.here hx rfl (hb hby at_1) ?_
      show Steps p.tables e below (s₁.setTop (mkF m 2 #[.val (.int xs), .val (.int xb), .val (.int xc), .val (.long xd), .second, .unset, .unset, .unset, .unset, .unset, .unset] [(.int (1 : Int32)), (.int xs)])) _
      refine XS.iand X0.here hx rfl (hb hby at_2) rfl ?_
      show Steps p.tables e below (s₁.setTop (mkF m 3 #[.val (.int xs), .val (.int xb), .val (.int xc), .val (.long xd), .second, .unset, .unset, .unset, .unset, .unset, .unset] [(.int (xs &&& (1 : Int32)))])) _
      refine XS.ifYes X0.here hx rfl (pc0 := 3) (pc' := 39) rfl (hb hby at_3) rfl ((if0 _ _).trans (feq hc3).2) (by decide) (by decide) ?_
      show Steps p.tables e below (s₁.setTop (mkF m 39 #[.val (.int xs), .val (.int xb), .val (.int xc), .val (.long xd), .second, .unset, .unset, .unset, .unset, .unset, .unset] [])) _
      refine XS.bipush X0.here hx rfl (hb hby at_39) ?_
      show Steps p.tables e below (s₁.setTop (mkF m 41 #[.val (.int xs), .val (.int xb), .val (.int xc), .val (.long xd), .second, .unset, .unset, .unset, .unset, .unset, .unset] [(.int (13 : Int32))])) _
      refine XS.iloadN X0.here hx rfl (hb hby at_41) rfl ?_
      show Steps p.tables e below (s₁.setTop (mkF m 42 #[.val (.int xs), .val (.int xb), .val (.int xc), .val (.long xd), .second, .unset, .unset, .unset, .unset, .unset, .unset] [(.int xc), (.int (13 : Int32))])) _
      refine X0.ldcInt hx hown (mvT hZ (hw _ (List.mem_of_getElem? (i := 0) rfl))) (g := (mkF m 42 #[.val (.int xs), .val (.int xb), .val (.int xc), .val (.long xd), .second, .unset, .unset, .unset, .unset, .unset, .unset] [(.int xc), (.int (13 : Int32))])) rfl (hb hby at_42) _ ?_
      show Steps p.tables e below (s₁.setTop (mkF m 44 #[.val (.int xs), .val (.int xb), .val (.int xc), .val (.long xd), .second, .unset, .unset, .unset, .unset, .unset, .unset] [(.int (2147483647 : Int32)), (.int xc), (.int (13 : Int32))])) _
      refine XS.iand X0.here hx rfl (hb hby at_44) rfl ?_
      show Steps p.tables e below (s₁.setTop (mkF m 45 #[.val (.int xs), .val (.int xb), .val (.int xc), .val (.long xd), .second, .unset, .unset, .unset, .unset, .unset, .unset] [(.int (xc &&& (2147483647 : Int32))), (.int (13 : Int32))])) _
      refine XS.bipush X0.here hx rfl (hb hby at_45) ?_
      show Steps p.tables e below (s₁.setTop (mkF m 47 #[.val (.int xs), .val (.int xb), .val (.int xc), .val (.long xd), .second, .unset, .unset, .unset, .unset, .unset, .unset] [(.int (19 : Int32)), (.int (xc &&& (2147483647 : Int32))), (.int (13 : Int32))])) _
      refine XS.irem X0.here hx rfl (hb hby at_47) rfl (by decide) ?_
      show Steps p.tables e below (s₁.setTop (mkF m 48 #[.val (.int xs), .val (.int xb), .val (.int xc), .val (.long xd), .second, .unset, .unset, .unset, .unset, .unset, .unset] [(.int ((xc &&& (2147483647 : Int32)) - ((xc &&& (2147483647 : Int32)) / (19 : Int32)) * (19 : Int32))), (.int (13 : Int32))])) _
      refine XS.iadd X0.here hx rfl (hb hby at_48) rfl ?_
      show Steps p.tables e below (s₁.setTop (mkF m 49 #[.val (.int xs), .val (.int xb), .val (.int xc), .val (.long xd), .second, .unset, .unset, .unset, .unset, .unset, .unset] [(.int ((13 : Int32) + ((xc &&& (2147483647 : Int32)) - ((xc &&& (2147483647 : Int32)) / (19 : Int32)) * (19 : Int32))))])) _
      refine XS.istore X0.here hx rfl (hb hby at_49) rfl (l' := #[.val (.int xs), .val (.int xb), .val (.int xc), .val (.long xd), .second, .val (.int (pF xc)), .unset, .unset, .unset, .unset, .unset]) rfl ?_
      show Steps p.tables e below (s₁.setTop (mkF m 51 #[.val (.int xs), .val (.int xb), .val (.int xc), .val (.long xd), .second, .val (.int (pF xc)), .unset, .unset, .unset, .unset, .unset] [])) _
      refine XS.iloadN X0.here hx rfl (hb hby at_51) rfl ?_
      show Steps p.tables e below (s₁.setTop (mkF m 52 #[.val (.int xs), .val (.int xb), .val (.int xc), .val (.long xd), .second, .val (.int (pF xc)), .unset, .unset, .unset, .unset, .unset] [(.int xb)])) _
      refine XS.bipush X0.here hx rfl (hb hby at_52) ?_
      show Steps p.tables e below (s₁.setTop (mkF m 54 #[.val (.int xs), .val (.int xb), .val (.int xc), .val (.long xd), .second, .val (.int (pF xc)), .unset, .unset, .unset, .unset, .unset] [(.int (15 : Int32)), (.int xb)])) _
      refine XS.iand X0.here hx rfl (hb hby at_54) rfl ?_
      show Steps p.tables e below (s₁.setTop (mkF m 55 #[.val (.int xs), .val (.int xb), .val (.int xc), .val (.long xd), .second, .val (.int (pF xc)), .unset, .unset, .unset, .unset, .unset] [(.int (xb &&& (15 : Int32)))])) _
      refine XS.istore X0.here hx rfl (hb hby at_55) rfl (l' := #[.val (.int xs), .val (.int xb), .val (.int xc), .val (.long xd), .second, .val (.int (pF xc)), .val (.int (mF xb)), .unset, .unset, .unset, .unset]) rfl ?_
      show Steps p.tables e below (s₁.setTop (mkF m 57 #[.val (.int xs), .val (.int xb), .val (.int xc), .val (.long xd), .second, .val (.int (pF xc)), .val (.int (mF xb)), .unset, .unset, .unset, .unset] [])) _
      refine XS.lloadN X0.here hx rfl (hb hby at_57) rfl ?_
      show Steps p.tables e below (s₁.setTop (mkF m 58 #[.val (.int xs), .val (.int xb), .val (.int xc), .val (.long xd), .second, .val (.int (pF xc)), .val (.int (mF xb)), .unset, .unset, .unset, .unset] [(.long xd)])) _
      refine XS.lconst X0.here hx rfl (hb hby at_58) ?_
      show Steps p.tables e below (s₁.setTop (mkF m 59 #[.val (.int xs), .val (.int xb), .val (.int xc), .val (.long xd), .second, .val (.int (pF xc)), .val (.int (mF xb)), .unset, .unset, .unset, .unset] [(.long (1 : Int64)), (.long xd)])) _
      refine XS.iload X0.here hx rfl (hb hby at_59) rfl ?_
      show Steps p.tables e below (s₁.setTop (mkF m 61 #[.val (.int xs), .val (.int xb), .val (.int xc), .val (.long xd), .second, .val (.int (pF xc)), .val (.int (mF xb)), .unset, .unset, .unset, .unset] [(.int (pF xc)), (.long (1 : Int64)), (.long xd)])) _
      refine XS.iconst X0.here hx rfl (hb hby at_61) ?_
      show Steps p.tables e below (s₁.setTop (mkF m 62 #[.val (.int xs), .val (.int xb), .val (.int xc), .val (.long xd), .second, .val (.int (pF xc)), .val (.int (mF xb)), .unset, .unset, .unset, .unset] [(.int (4 : Int32)), (.int (pF xc)), (.long (1 : Int64)), (.long xd)])) _
      refine XS.isub X0.here hx rfl (hb hby at_62) rfl ?_
      show Steps p.tables e below (s₁.setTop (mkF m 63 #[.val (.int xs), .val (.int xb), .val (.int xc), .val (.long xd), .second, .val (.int (pF xc)), .val (.int (mF xb)), .unset, .unset, .unset, .unset] [(.int ((pF xc) - (4 : Int32))), (.long (1 : Int64)), (.long xd)])) _
      refine XS.lshl X0.here hx rfl (hb hby at_63) rfl ?_
      show Steps p.tables e below (s₁.setTop (mkF m 64 #[.val (.int xs), .val (.int xb), .val (.int xc), .val (.long xd), .second, .val (.int (pF xc)), .val (.int (mF xb)), .unset, .unset, .unset, .unset] [(.long ((1 : Int64) <<< (((pF xc) - (4 : Int32)) &&& 0x3f).toInt64)), (.long xd)])) _
      refine XS.lconst X0.here hx rfl (hb hby at_64) ?_
      show Steps p.tables e below (s₁.setTop (mkF m 65 #[.val (.int xs), .val (.int xb), .val (.int xc), .val (.long xd), .second, .val (.int (pF xc)), .val (.int (mF xb)), .unset, .unset, .unset, .unset] [(.long (1 : Int64)), (.long ((1 : Int64) <<< (((pF xc) - (4 : Int32)) &&& 0x3f).toInt64)), (.long xd)])) _
      refine XS.lsub X0.here hx rfl (hb hby at_65) rfl ?_
      show Steps p.tables e below (s₁.setTop (mkF m 66 #[.val (.int xs), .val (.int xb), .val (.int xc), .val (.long xd), .second, .val (.int (pF xc)), .val (.int (mF xb)), .unset, .unset, .unset, .unset] [(.long (((1 : Int64) <<< (((pF xc) - (4 : Int32)) &&& 0x3f).toInt64) - (1 : Int64))), (.long xd)])) _
      refine XS.land X0.here hx rfl (hb hby at_66) rfl ?_
      show Steps p.tables e below (s₁.setTop (mkF m 67 #[.val (.int xs), .val (.int xb), .val (.int xc), .val (.long xd), .second, .val (.int (pF xc)), .val (.int (mF xb)), .unset, .unset, .unset, .unset] [(.long (xd &&& (((1 : Int64) <<< (((pF xc) - (4 : Int32)) &&& 0x3f).toInt64) - (1 : Int64))))])) _
      refine X0.ldc2Long hx hown (mvT hZ (hw _ (List.mem_of_getElem? (i := 8) rfl))) (g := (mkF m 67 #[.val (.int xs), .val (.int xb), .val (.int xc), .val (.long xd), .second, .val (.int (pF xc)), .val (.int (mF xb)), .unset, .unset, .unset, .unset] [(.long (xd &&& (((1 : Int64) <<< (((pF xc) - (4 : Int32)) &&& 0x3f).toInt64) - (1 : Int64))))])) rfl (hb hby at_67) _ ?_
      show Steps p.tables e below (s₁.setTop (mkF m 70 #[.val (.int xs), .val (.int xb), .val (.int xc), .val (.long xd), .second, .val (.int (pF xc)), .val (.int (mF xb)), .unset, .unset, .unset, .unset] [(.long (-8 : Int64)), (.long (xd &&& (((1 : Int64) <<< (((pF xc) - (4 : Int32)) &&& 0x3f).toInt64) - (1 : Int64))))])) _
      refine XS.land X0.here hx rfl (hb hby at_70) rfl ?_
      show Steps p.tables e below (s₁.setTop (mkF m 71 #[.val (.int xs), .val (.int xb), .val (.int xc), .val (.long xd), .second, .val (.int (pF xc)), .val (.int (mF xb)), .unset, .unset, .unset, .unset] [(.long ((xd &&& (((1 : Int64) <<< (((pF xc) - (4 : Int32)) &&& 0x3f).toInt64) - (1 : Int64))) &&& (-8 : Int64)))])) _
      refine XS.lstore X0.here hx rfl (hb hby at_71) rfl (l' := #[.val (.int xs), .val (.int xb), .val (.int xc), .val (.long xd), .second, .val (.int (pF xc)), .val (.int (mF xb)), .val (.long (lowF xc xd)), .second, .unset, .unset]) rfl ?_
      show Steps p.tables e below (s₁.setTop (mkF m 73 #[.val (.int xs), .val (.int xb), .val (.int xc), .val (.long xd), .second, .val (.int (pF xc)), .val (.int (mF xb)), .val (.long (lowF xc xd)), .second, .unset, .unset] [])) _
      refine X0.ldc2Long hx hown (mvT hZ (hw _ (List.mem_of_getElem? (i := 9) rfl))) (g := (mkF m 73 #[.val (.int xs), .val (.int xb), .val (.int xc), .val (.long xd), .second, .val (.int (pF xc)), .val (.int (mF xb)), .val (.long (lowF xc xd)), .second, .unset, .unset] [])) rfl (hb hby at_73) _ ?_
      show Steps p.tables e below (s₁.setTop (mkF m 76 #[.val (.int xs), .val (.int xb), .val (.int xc), .val (.long xd), .second, .val (.int (pF xc)), .val (.int (mF xb)), .val (.long (lowF xc xd)), .second, .unset, .unset] [(.long (16 : Int64))])) _
      refine XS.iload X0.here hx rfl (hb hby at_76) rfl ?_
      show Steps p.tables e below (s₁.setTop (mkF m 78 #[.val (.int xs), .val (.int xb), .val (.int xc), .val (.long xd), .second, .val (.int (pF xc)), .val (.int (mF xb)), .val (.long (lowF xc xd)), .second, .unset, .unset] [(.int (mF xb)), (.long (16 : Int64))])) _
      refine XS.i2l X0.here hx rfl (hb hby at_78) rfl ?_
      show Steps p.tables e below (s₁.setTop (mkF m 79 #[.val (.int xs), .val (.int xb), .val (.int xc), .val (.long xd), .second, .val (.int (pF xc)), .val (.int (mF xb)), .val (.long (lowF xc xd)), .second, .unset, .unset] [(.long ((mF xb).toInt64)), (.long (16 : Int64))])) _
      refine XS.ladd X0.here hx rfl (hb hby at_79) rfl ?_
      show Steps p.tables e below (s₁.setTop (mkF m 80 #[.val (.int xs), .val (.int xb), .val (.int xc), .val (.long xd), .second, .val (.int (pF xc)), .val (.int (mF xb)), .val (.long (lowF xc xd)), .second, .unset, .unset] [(.long ((16 : Int64) + ((mF xb).toInt64)))])) _
      refine XS.iload X0.here hx rfl (hb hby at_80) rfl ?_
      show Steps p.tables e below (s₁.setTop (mkF m 82 #[.val (.int xs), .val (.int xb), .val (.int xc), .val (.long xd), .second, .val (.int (pF xc)), .val (.int (mF xb)), .val (.long (lowF xc xd)), .second, .unset, .unset] [(.int (pF xc)), (.long ((16 : Int64) + ((mF xb).toInt64)))])) _
      refine XS.iconst X0.here hx rfl (hb hby at_82) ?_
      show Steps p.tables e below (s₁.setTop (mkF m 83 #[.val (.int xs), .val (.int xb), .val (.int xc), .val (.long xd), .second, .val (.int (pF xc)), .val (.int (mF xb)), .val (.long (lowF xc xd)), .second, .unset, .unset] [(.int (4 : Int32)), (.int (pF xc)), (.long ((16 : Int64) + ((mF xb).toInt64)))])) _
      refine XS.isub X0.here hx rfl (hb hby at_83) rfl ?_
      show Steps p.tables e below (s₁.setTop (mkF m 84 #[.val (.int xs), .val (.int xb), .val (.int xc), .val (.long xd), .second, .val (.int (pF xc)), .val (.int (mF xb)), .val (.long (lowF xc xd)), .second, .unset, .unset] [(.int ((pF xc) - (4 : Int32))), (.long ((16 : Int64) + ((mF xb).toInt64)))])) _
      refine XS.lshl X0.here hx rfl (hb hby at_84) rfl ?_
      show Steps p.tables e below (s₁.setTop (mkF m 85 #[.val (.int xs), .val (.int xb), .val (.int xc), .val (.long xd), .second, .val (.int (pF xc)), .val (.int (mF xb)), .val (.long (lowF xc xd)), .second, .unset, .unset] [(.long (((16 : Int64) + ((mF xb).toInt64)) <<< (((pF xc) - (4 : Int32)) &&& 0x3f).toInt64))])) _
      refine XS.lload X0.here hx rfl (hb hby at_85) rfl ?_
      show Steps p.tables e below (s₁.setTop (mkF m 87 #[.val (.int xs), .val (.int xb), .val (.int xc), .val (.long xd), .second, .val (.int (pF xc)), .val (.int (mF xb)), .val (.long (lowF xc xd)), .second, .unset, .unset] [(.long (lowF xc xd)), (.long (((16 : Int64) + ((mF xb).toInt64)) <<< (((pF xc) - (4 : Int32)) &&& 0x3f).toInt64))])) _
      refine XS.lor X0.here hx rfl (hb hby at_87) rfl ?_
      show Steps p.tables e below (s₁.setTop (mkF m 88 #[.val (.int xs), .val (.int xb), .val (.int xc), .val (.long xd), .second, .val (.int (pF xc)), .val (.int (mF xb)), .val (.long (lowF xc xd)), .second, .unset, .unset] [(.long ((((16 : Int64) + ((mF xb).toInt64)) <<< (((pF xc) - (4 : Int32)) &&& 0x3f).toInt64) ||| (lowF xc xd)))])) _
      refine XS.lstore X0.here hx rfl (hb hby at_88) rfl (l' := #[.val (.int xs), .val (.int xb), .val (.int xc), .val (.long xd), .second, .val (.int (pF xc)), .val (.int (mF xb)), .val (.long (lowF xc xd)), .second, .val (.long (sizeF xb xc xd)), .second]) rfl ?_
      show Steps p.tables e below (s₁.setTop (mkF m 90 #[.val (.int xs), .val (.int xb), .val (.int xc), .val (.long xd), .second, .val (.int (pF xc)), .val (.int (mF xb)), .val (.long (lowF xc xd)), .second, .val (.long (sizeF xb xc xd)), .second] [])) _
      refine XS.lload X0.here hx rfl (hb hby at_90) rfl ?_
      show Steps p.tables e below (s₁.setTop (mkF m 92 #[.val (.int xs), .val (.int xb), .val (.int xc), .val (.long xd), .second, .val (.int (pF xc)), .val (.int (mF xb)), .val (.long (lowF xc xd)), .second, .val (.long (sizeF xb xc xd)), .second] [(.long (sizeF xb xc xd))])) _
      refine st2 _ ?_
      show Steps p.tables e below (T2.setTop (mkF m 95 #[.val (.int xs), .val (.int xb), .val (.int xc), .val (.long xd), .second, .val (.int (pF xc)), .val (.int (mF xb)), .val (.long (lowF xc xd)), .second, .val (.long (sizeF xb xc xd)), .second] [(.int (clsF (sizeF xb xc xd)))])) _
      refine XS.sipush X2.here hx rfl (hb hby at_95) ?_
      show Steps p.tables e below (T2.setTop (mkF m 98 #[.val (.int xs), .val (.int xb), .val (.int xc), .val (.long xd), .second, .val (.int (pF xc)), .val (.int (mF xb)), .val (.long (lowF xc xd)), .second, .val (.long (sizeF xb xc xd)), .second] [(.int (1024 : Int32)), (.int (clsF (sizeF xb xc xd)))])) _
      refine XS.iload X2.here hx rfl (hb hby at_98) rfl ?_
      show Steps p.tables e below (T2.setTop (mkF m 100 #[.val (.int xs), .val (.int xb), .val (.int xc), .val (.long xd), .second, .val (.int (pF xc)), .val (.int (mF xb)), .val (.long (lowF xc xd)), .second, .val (.long (sizeF xb xc xd)), .second] [(.int (pF xc)), (.int (1024 : Int32)), (.int (clsF (sizeF xb xc xd)))])) _
      refine XS.bipush X2.here hx rfl (hb hby at_100) ?_
      show Steps p.tables e below (T2.setTop (mkF m 102 #[.val (.int xs), .val (.int xb), .val (.int xc), .val (.long xd), .second, .val (.int (pF xc)), .val (.int (mF xb)), .val (.long (lowF xc xd)), .second, .val (.long (sizeF xb xc xd)), .second] [(.int (13 : Int32)), (.int (pF xc)), (.int (1024 : Int32)), (.int (clsF (sizeF xb xc xd)))])) _
      refine XS.isub X2.here hx rfl (hb hby at_102) rfl ?_
      show Steps p.tables e below (T2.setTop (mkF m 103 #[.val (.int xs), .val (.int xb), .val (.int xc), .val (.long xd), .second, .val (.int (pF xc)), .val (.int (mF xb)), .val (.long (lowF xc xd)), .second, .val (.long (sizeF xb xc xd)), .second] [(.int ((pF xc) - (13 : Int32))), (.int (1024 : Int32)), (.int (clsF (sizeF xb xc xd)))])) _
      refine XS.bipush X2.here hx rfl (hb hby at_103) ?_
      show Steps p.tables e below (T2.setTop (mkF m 105 #[.val (.int xs), .val (.int xb), .val (.int xc), .val (.long xd), .second, .val (.int (pF xc)), .val (.int (mF xb)), .val (.long (lowF xc xd)), .second, .val (.long (sizeF xb xc xd)), .second] [(.int (16 : Int32)), (.int ((pF xc) - (13 : Int32))), (.int (1024 : Int32)), (.int (clsF (sizeF xb xc xd)))])) _
      refine XS.imul X2.here hx rfl (hb hby at_105) rfl ?_
      show Steps p.tables e below (T2.setTop (mkF m 106 #[.val (.int xs), .val (.int xb), .val (.int xc), .val (.long xd), .second, .val (.int (pF xc)), .val (.int (mF xb)), .val (.long (lowF xc xd)), .second, .val (.long (sizeF xb xc xd)), .second] [(.int (((pF xc) - (13 : Int32)) * (16 : Int32))), (.int (1024 : Int32)), (.int (clsF (sizeF xb xc xd)))])) _
      refine XS.iadd X2.here hx rfl (hb hby at_106) rfl ?_
      show Steps p.tables e below (T2.setTop (mkF m 107 #[.val (.int xs), .val (.int xb), .val (.int xc), .val (.long xd), .second, .val (.int (pF xc)), .val (.int (mF xb)), .val (.long (lowF xc xd)), .second, .val (.long (sizeF xb xc xd)), .second] [(.int ((1024 : Int32) + (((pF xc) - (13 : Int32)) * (16 : Int32)))), (.int (clsF (sizeF xb xc xd)))])) _
      refine XS.iload X2.here hx rfl (hb hby at_107) rfl ?_
      show Steps p.tables e below (T2.setTop (mkF m 109 #[.val (.int xs), .val (.int xb), .val (.int xc), .val (.long xd), .second, .val (.int (pF xc)), .val (.int (mF xb)), .val (.long (lowF xc xd)), .second, .val (.long (sizeF xb xc xd)), .second] [(.int (mF xb)), (.int ((1024 : Int32) + (((pF xc) - (13 : Int32)) * (16 : Int32)))), (.int (clsF (sizeF xb xc xd)))])) _
      refine XS.iadd X2.here hx rfl (hb hby at_109) rfl ?_
      show Steps p.tables e below (T2.setTop (mkF m 110 #[.val (.int xs), .val (.int xb), .val (.int xc), .val (.long xd), .second, .val (.int (pF xc)), .val (.int (mF xb)), .val (.long (lowF xc xd)), .second, .val (.long (sizeF xb xc xd)), .second] [(.int (((1024 : Int32) + (((pF xc) - (13 : Int32)) * (16 : Int32))) + (mF xb))), (.int (clsF (sizeF xb xc xd)))])) _
      by_cases h110 : (clsF (sizeF xb xc xd)) = (((1024 : Int32) + (((pF xc) - (13 : Int32)) * (16 : Int32))) + (mF xb))
      · refine XS.icmpNo X2.here hx rfl (hb hby at_110) rfl (teq h110).2 ?_
        show Steps p.tables e below (T2.setTop (mkF m 113 #[.val (.int xs), .val (.int xb), .val (.int xc), .val (.long xd), .second, .val (.int (pF xc)), .val (.int (mF xb)), .val (.long (lowF xc xd)), .second, .val (.long (sizeF xb xc xd)), .second] [])) _
        refine XS.iconst X2.here hx rfl (hb hby at_113) ?_
        show Steps p.tables e below (T2.setTop (mkF m 114 #[.val (.int xs), .val (.int xb), .val (.int xc), .val (.long xd), .second, .val (.int (pF xc)), .val (.int (mF xb)), .val (.long (lowF xc xd)), .second, .val (.long (sizeF xb xc xd)), .second] [(.int (1 : Int32))])) _
        refine XS.goto X2.here hx rfl (pc0 := 114) (pc' := 118) rfl (hb hby at_114) (by decide) (by decide) ?_
        show Steps p.tables e below (T2.setTop (mkF m 118 #[.val (.int xs), .val (.int xb), .val (.int xc), .val (.long xd), .second, .val (.int (pF xc)), .val (.int (mF xb)), .val (.long (lowF xc xd)), .second, .val (.long (sizeF xb xc xd)), .second] [(.int (1 : Int32))])) _
        exact retN X2 hx (t := .boolean) Bd.returns (by simp) (hb hby at_118) (by rw [show nar .boolean (1 : Int32) = (lawF xs xb xc xd) from (own_nar1).trans (by simp only [lawF, hc3, h110, eq_self, if_true, if_false])]; exact hr)
      · refine XS.icmpYes X2.here hx rfl (pc0 := 110) (pc' := 117) rfl (hb hby at_110) rfl (feq h110).2 (by decide) (by decide) ?_
        show Steps p.tables e below (T2.setTop (mkF m 117 #[.val (.int xs), .val (.int xb), .val (.int xc), .val (.long xd), .second, .val (.int (pF xc)), .val (.int (mF xb)), .val (.long (lowF xc xd)), .second, .val (.long (sizeF xb xc xd)), .second] [])) _
        refine XS.iconst X2.here hx rfl (hb hby at_117) ?_
        show Steps p.tables e below (T2.setTop (mkF m 118 #[.val (.int xs), .val (.int xb), .val (.int xc), .val (.long xd), .second, .val (.int (pF xc)), .val (.int (mF xb)), .val (.long (lowF xc xd)), .second, .val (.long (sizeF xb xc xd)), .second] [(.int (0 : Int32))])) _
        exact retN X2 hx (t := .boolean) Bd.returns (by simp) (hb hby at_118) (by rw [show nar .boolean (0 : Int32) = (lawF xs xb xc xd) from (own_nar0).trans (by simp only [lawF, hc3, h110, eq_self, if_true, if_false])]; exact hr)
    · show Q_law Z xs xb xc xd h0 n0 _ T2.heap _
      exact ⟨rfl, N2, trivial⟩
set_option maxRecDepth 65536 in
set_option maxHeartbeats 40000000 in
theorem comes_1 {Post : Tables → Env → Array Value → State → Outcome → State → Prop} (hpost : ∀ tb e args s v u, (limb_1_1.after args s (.returned v) u = true ∧ limb_1_2.after args s (.returned v) u = true ∧ True) → FrameEnd s (.returned v) u (Jvm.fieldLocs frame_1_writes args s ++ Jvm.arrayLocs frame_1_arrays args s ++ Jvm.staticLocs frame_1_statics s) 0 0 → Post tb e args s (.returned v) u) :
    ArmFor flags0 classFile x code maxLocals ret World_1 tables_1 room_1 Calls_1 rest_1 Pre_1 Post := by
  intro l hfl _ _ p e ha hc hk s m args below hf hA hF happ hP
  obtain ⟨hcalls, hrest, hpre⟩ := hP
  obtain ⟨-, -, -, hnamed, -, -, -, hat⟩ := (Spec.applies_iff hf).mp happ
  obtain ⟨hg, hn⟩ := and_e (Cond.before_iff.mp (show (Jvm.Cond.and given_1 narrow_1).before args s = true from hpre))
  obtain ⟨gc, g0⟩ := and_e hg
  obtain ⟨k0, g1⟩ := and_e g0
  obtain ⟨k1, g2⟩ := and_e g1
  obtain ⟨k2, g3⟩ := and_e g2
  have k3 := g3
  obtain ⟨w0, w1, w2, w3, rfl⟩ : ∃ w0 w1 w2 w3 : Value, args = #[w0, w1, w2, w3] := by
    have hs : args.size = 4 := by simpa [Cond.value, given_1] using gc
    obtain ⟨L⟩ := args
    match L, hs with
    | [w0, w1, w2, w3], _ => exact ⟨w0, w1, w2, w3, rfl⟩
  have hw := fun d (hd : d ∈ tables_1) => atoms_spec (ws := Jvm.Cond.code x code maxLocals ret :: tables_1) hat d (List.mem_cons_of_mem _ hd)
  obtain ⟨i0, ei0⟩ := is_v k0
  obtain rfl : w0 = (.int i0) := Option.some.inj ei0
  obtain ⟨i1, ei1⟩ := is_v k1
  obtain rfl : w1 = (.int i1) := Option.some.inj ei1
  obtain ⟨i2, ei2⟩ := is_v k2
  obtain rfl : w2 = (.int i2) := Option.some.inj ei2
  obtain ⟨i3, ei3⟩ := isL_v k3
  obtain rfl : w3 = (.long i3) := Option.some.inj ei3
  obtain ⟨n, o, h1, h2, h3, v, L, rfl, hQ, hq⟩ := rm_law l s _ hw tables_1 i0 i1 i2 i3 s.heap s.heap.size (Nat.le_refl _)  p e ha hc hk s m _ below hf ((Spec.applies_iff_loose hf).mp happ).1 ⟨rfl, State.Warmed39.refl s, rfl⟩ trivial
  have hv : v = some (.int 1) := hQ.1.trans (by rw [lawF_one])
  subst hv
  have N := hQ.2.1
  refine ⟨n, _, h1, h2, h3, hpost _ _ _ _ _ _ ⟨Cond.after_iff.mpr rfl, Cond.after_iff.mpr (eq_i res_at (Term.int_eval (1)) rfl), trivial⟩ ⟨hq.1, hq.2.1, (hq.2.2.sift fun y hy => Or.inr (N y hy)).mono (by decide) (by decide)⟩⟩
theorem main_1_1 : Claimed_1_1 := comes_1 fun _ _ _ _ _ _ h hF => ⟨h.1, hF⟩
theorem main_1_2 : Claimed_1_2 := comes_1 fun _ _ _ _ _ _ h hF => ⟨h.2.1, hF⟩
end Jvm.Pilot.@@N@@
namespace Jvm.Pilot.@@N@@
open Jvm Jvm.ClassFile Sem Op Lib Jvm.Free Jvm.Stand Jvm.Pilot.@@N@@.Jvm.D
/-! MADE BY PROGRAM (witnessworld.py) out of the Statement's table words and the real class files: 15 classes; the members and pool entries that the words name. The judged class is class 1, her method 1. -/
namespace start1
open Jvm.ClassFile
def u (s : String) : CpInfo := .utf8 (stringToUtf16 s)
/-- a pool by its gaps: so many unusable entries, then the entry; so many at the end -/
def gap : Nat → List CpInfo → List CpInfo
  | 0, r => r
  | n + 1, r => .unusable :: gap n r
def poolList (es : List (Nat × CpInfo)) (last : Nat) : List CpInfo := es.foldr (fun e r => gap e.1 (e.2 :: r)) (gap last [])
def pool (es : List (Nat × CpInfo)) (last : Nat) : Array CpInfo := ⟨poolList es last⟩
def fileOf (pool : Array CpInfo) (this : Nat) (attrs : Array Attribute := #[]) (ms : Array MethodInfo := #[]) (fl : Nat := 33) (sup : Nat := 0) (ifs : Array Nat := #[]) (fds : Array FieldInfo := #[]) : ClassFile where
  minorVersion := 0
  majorVersion := 65
  constantPool := pool
  accessFlags := fl
  thisClass := this
  superClass := sup
  interfaces := ifs
  fields := fds
  methods := ms
  attributes := attrs
def plain (name : String) (sup : Option ClassId) : Class where
  name := name
  kind := .ordinary
  loader := none
  accessFlags := 33
  super := sup
  interfaces := #[]
  cf := none
  fields := #[]
  methods := #[]
  instanceTypes := #[]
  staticTypes := #[]
  resolved := #[]
  callSites := []
  init := .initialized
  statics := none
  mirror := none

def pool0 : Array CpInfo := pool [(5, u "<init>"), (0, u "()V"), (1, .class_ 10), (1, u "java/lang/Object")] 113

def k0m0 : Method := { name := "<init>", desc := "()V", sig := { parameters := [], returnType := none }, accessFlags := 1, code := none }
/-- java/lang/Object -/
def k0 : Class := { plain "java/lang/Object" none with
  accessFlags := 33
  interfaces := #[]
  cf := some (fileOf pool0 8 #[] #[{ accessFlags := 1, nameIndex := 5, descriptorIndex := 6, attributes := #[] }] 33 0 #[] #[])
  fields := #[]
  methods := #[k0m0]
  instanceTypes := #[]
  staticTypes := #[]
  resolved := Array.replicate 124 none
  statics := none }

def pool1 : Array CpInfo := pool [(2, .class_ 4), (1, u "java/lang/Object"), (0, u "<init>"), (0, u "()V"), (0, .integer 2147483647), (0, .long 8), (1, .methodref 11 12), (0, .class_ 13), (0, .nameAndType 14 15), (0, u "com/example/outboard/outboard/SizeClasses"), (0, u "classOf"), (0, u "(J)I"), (0, .long 18446744073709551608), (1, .long 16), (1, .class_ 21), (0, u "com/example/outboard/outboard/SizeClassesClassOfPinLaw"), (2, u "law"), (0, u "(IIIJ)Z")] 3

def k1m0 : Method := { name := "<init>", desc := "()V", sig := { parameters := [], returnType := none }, accessFlags := 1, code := none }
def k1c1 : Code := { maxStack := 6, maxLocals := 11, code := code, exceptionTable := #[], attributes := #[] }
def k1m1 : Method := { name := "law", desc := "(IIIJ)Z", sig := { parameters := [.int, .int, .int, .long], returnType := some .boolean }, accessFlags := 9, code := some k1c1 }
/-- com/example/outboard/outboard/SizeClassesClassOfPinLaw -/
def k1 : Class := { plain "com/example/outboard/outboard/SizeClassesClassOfPinLaw" (some 0) with
  accessFlags := 49
  interfaces := #[]
  cf := some (fileOf pool1 20 #[] #[{ accessFlags := 1, nameIndex := 5, descriptorIndex := 6, attributes := #[] }, { accessFlags := 9, nameIndex := 24, descriptorIndex := 25, attributes := #[] }] 49 2 #[] #[])
  fields := #[]
  methods := #[k1m0, k1m1]
  instanceTypes := #[]
  staticTypes := #[]
  resolved := Array.replicate 29 none
  statics := none }

def pool2 : Array CpInfo := pool [(1, .class_ 2), (0, u "java/lang/Long"), (0, .class_ 4), (0, u "com/example/outboard/outboard/SizeClasses"), (3, .class_ 10), (1, u "java/lang/Object"), (0, u "<init>"), (0, u "()V"), (0, .methodref 1 14), (0, .nameAndType 15 16), (0, u "numberOfLeadingZeros"), (0, u "(J)I"), (0, .methodref 3 18), (0, .nameAndType 19 16), (0, u "log2"), (0, .long 8), (1, .long 8192), (1, .methodref 3 25), (0, .nameAndType 26 16), (0, u "band"), (10, u "classOf"), (2, u "CLASSES"), (0, u "I"), (0, u "ALIGNMENT"), (2, u "EXACT"), (0, u "J"), (0, u "EXACT_CLASSES"), (1, u "BAND_BITS"), (1, u "BANDS_PER_POWER"), (1, u "BANDS")] 9

def k2m0 : Method := { name := "<init>", desc := "()V", sig := { parameters := [], returnType := none }, accessFlags := 2, code := none }
def k2c1 : Code := { maxStack := 3, maxLocals := 2, code := prog_5_method_2_code, exceptionTable := #[], attributes := #[] }
def k2m1 : Method := { name := "log2", desc := "(J)I", sig := { parameters := [.long], returnType := some .int }, accessFlags := 8, code := some k2c1 }
def k2c2 : Code := { maxStack := 4, maxLocals := 3, code := prog_5_method_3_code, exceptionTable := #[], attributes := #[] }
def k2m2 : Method := { name := "band", desc := "(J)I", sig := { parameters := [.long], returnType := some .int }, accessFlags := 10, code := some k2c2 }
def k2c3 : Code := { maxStack := 4, maxLocals := 3, code := prog_5_method_5_code, exceptionTable := #[], attributes := #[] }
def k2m3 : Method := { name := "classOf", desc := "(J)I", sig := { parameters := [.long], returnType := some .int }, accessFlags := 8, code := some k2c3 }
/-- com/example/outboard/outboard/SizeClasses -/
def k2 : Class := { plain "com/example/outboard/outboard/SizeClasses" (some 0) with
  accessFlags := 48
  interfaces := #[]
  cf := some (fileOf pool2 3 #[] #[{ accessFlags := 2, nameIndex := 11, descriptorIndex := 12, attributes := #[] }, { accessFlags := 8, nameIndex := 19, descriptorIndex := 16, attributes := #[] }, { accessFlags := 10, nameIndex := 26, descriptorIndex := 16, attributes := #[] }, { accessFlags := 8, nameIndex := 37, descriptorIndex := 16, attributes := #[] }] 48 8 #[] #[{ accessFlags := 24, nameIndex := 42, descriptorIndex := 41, attributes := #[] }, { accessFlags := 24, nameIndex := 45, descriptorIndex := 46, attributes := #[] }, { accessFlags := 24, nameIndex := 47, descriptorIndex := 41, attributes := #[] }, { accessFlags := 26, nameIndex := 49, descriptorIndex := 41, attributes := #[] }, { accessFlags := 26, nameIndex := 51, descriptorIndex := 41, attributes := #[] }, { accessFlags := 26, nameIndex := 53, descriptorIndex := 41, attributes := #[] }, { accessFlags := 24, nameIndex := 40, descriptorIndex := 41, attributes := #[] }])
  fields := #[{ name := "ALIGNMENT", type := .int, accessFlags := 24, slot := 0, constantValue := 0 }, { name := "EXACT", type := .long, accessFlags := 24, slot := 1, constantValue := 0 }, { name := "EXACT_CLASSES", type := .int, accessFlags := 24, slot := 2, constantValue := 0 }, { name := "BAND_BITS", type := .int, accessFlags := 26, slot := 3, constantValue := 0 }, { name := "BANDS_PER_POWER", type := .int, accessFlags := 26, slot := 4, constantValue := 0 }, { name := "BANDS", type := .int, accessFlags := 26, slot := 5, constantValue := 0 }, { name := "CLASSES", type := .int, accessFlags := 24, slot := 6, constantValue := 0 }]
  methods := #[k2m0, k2m1, k2m2, k2m3]
  instanceTypes := #[]
  staticTypes := #[.int, .long, .int, .int, .int, .int, .int]
  resolved := Array.replicate 63 none
  statics := none }

def pool3 : Array CpInfo := pool [(1, .class_ 2), (0, u "java/io/Serializable"), (0, .class_ 4), (0, u "java/lang/Object")] 2

/-- java/io/Serializable -/
def k3 : Class := { plain "java/io/Serializable" (some 0) with
  accessFlags := 1537
  interfaces := #[]
  cf := some (fileOf pool3 1 #[] #[] 1537 3 #[] #[])
  fields := #[]
  methods := #[]
  instanceTypes := #[]
  staticTypes := #[]
  resolved := Array.replicate 7 none
  statics := none }

def pool4 : Array CpInfo := pool [(2, .class_ 4), (1, u "java/lang/Object"), (0, u "<init>"), (0, u "()V"), (1, .class_ 10), (1, u "java/lang/Number"), (2, .class_ 14), (0, u "java/io/Serializable"), (0, u "serialVersionUID"), (0, u "J")] 20

def k4m0 : Method := { name := "<init>", desc := "()V", sig := { parameters := [], returnType := none }, accessFlags := 1, code := none }
/-- java/lang/Number -/
def k4 : Class := { plain "java/lang/Number" (some 0) with
  accessFlags := 1057
  interfaces := #[3]
  cf := some (fileOf pool4 8 #[] #[{ accessFlags := 1, nameIndex := 5, descriptorIndex := 6, attributes := #[] }] 1057 2 #[13] #[{ accessFlags := 26, nameIndex := 15, descriptorIndex := 16, attributes := #[] }])
  fields := #[{ name := "serialVersionUID", type := .long, accessFlags := 26, slot := 0, constantValue := 0 }]
  methods := #[k4m0]
  instanceTypes := #[]
  staticTypes := #[.long]
  resolved := Array.replicate 37 none
  statics := none }

def pool5 : Array CpInfo := pool [(1, .class_ 2), (0, u "java/lang/Comparable"), (0, .class_ 4), (0, u "java/lang/Object")] 7

/-- java/lang/Comparable -/
def k5 : Class := { plain "java/lang/Comparable" (some 0) with
  accessFlags := 1537
  interfaces := #[]
  cf := some (fileOf pool5 1 #[] #[] 1537 3 #[] #[])
  fields := #[]
  methods := #[]
  instanceTypes := #[]
  staticTypes := #[]
  resolved := Array.replicate 12 none
  statics := none }

def pool6 : Array CpInfo := pool [(1, .class_ 2), (0, u "java/lang/constant/Constable"), (0, .class_ 4), (0, u "java/lang/Object")] 6

/-- java/lang/constant/Constable -/
def k6 : Class := { plain "java/lang/constant/Constable" (some 0) with
  accessFlags := 1537
  interfaces := #[]
  cf := some (fileOf pool6 1 #[] #[] 1537 3 #[] #[])
  fields := #[]
  methods := #[]
  instanceTypes := #[]
  staticTypes := #[]
  resolved := Array.replicate 11 none
  statics := none }

def pool7 : Array CpInfo := pool [(1, .class_ 2), (0, u "java/lang/constant/ConstantDesc"), (0, .class_ 4), (0, u "java/lang/Object")] 32

/-- java/lang/constant/ConstantDesc -/
def k7 : Class := { plain "java/lang/constant/ConstantDesc" (some 0) with
  accessFlags := 1537
  interfaces := #[]
  cf := some (fileOf pool7 1 #[] #[] 1537 3 #[] #[])
  fields := #[]
  methods := #[]
  instanceTypes := #[]
  staticTypes := #[]
  resolved := Array.replicate 37 none
  statics := none }

def pool8 : Array CpInfo := pool [(1, .class_ 2), (0, u "java/lang/Long"), (15, .class_ 20), (1, u "java/lang/Integer"), (79, u "numberOfLeadingZeros"), (0, u "(J)I"), (133, .class_ 237), (1, u "java/lang/Long$LongCache"), (33, .class_ 272), (0, u "java/lang/Number"), (2, u "value"), (0, u "J"), (31, .methodref 18 309), (0, .nameAndType 100 310), (0, u "(I)I"), (50, u "TYPE"), (0, u "Ljava/lang/Class;"), (0, .class_ 364), (0, u "java/lang/Comparable"), (0, .class_ 366), (0, u "java/lang/constant/Constable"), (0, .class_ 368), (0, u "java/lang/constant/ConstantDesc"), (0, u "MIN_VALUE"), (1, u "MAX_VALUE"), (4, u "SIZE"), (0, u "I"), (1, u "BYTES"), (1, u "serialVersionUID")] 142

def k8c0 : Code := { maxStack := 3, maxLocals := 3, code := jdk_35_method_48_code, exceptionTable := #[], attributes := #[] }
def k8m0 : Method := { name := "numberOfLeadingZeros", desc := "(J)I", sig := { parameters := [.long], returnType := some .int }, accessFlags := 9, code := some k8c0 }
/-- java/lang/Long -/
def k8 : Class := { plain "java/lang/Long" (some 4) with
  accessFlags := 49
  interfaces := #[5, 6, 7]
  cf := some (fileOf pool8 1 #[.nestMembers #[235]] #[{ accessFlags := 9, nameIndex := 100, descriptorIndex := 101, attributes := #[] }] 49 271 #[363, 365, 367] #[{ accessFlags := 25, nameIndex := 369, descriptorIndex := 276, attributes := #[] }, { accessFlags := 25, nameIndex := 371, descriptorIndex := 276, attributes := #[] }, { accessFlags := 25, nameIndex := 361, descriptorIndex := 362, attributes := #[] }, { accessFlags := 18, nameIndex := 275, descriptorIndex := 276, attributes := #[] }, { accessFlags := 25, nameIndex := 376, descriptorIndex := 377, attributes := #[] }, { accessFlags := 25, nameIndex := 379, descriptorIndex := 377, attributes := #[] }, { accessFlags := 26, nameIndex := 381, descriptorIndex := 276, attributes := #[] }])
  fields := #[{ name := "MIN_VALUE", type := .long, accessFlags := 25, slot := 0, constantValue := 0 }, { name := "MAX_VALUE", type := .long, accessFlags := 25, slot := 1, constantValue := 0 }, { name := "TYPE", type := (.object "java/lang/Class"), accessFlags := 25, slot := 2, constantValue := 0 }, { name := "value", type := .long, accessFlags := 18, slot := 0, constantValue := 0 }, { name := "SIZE", type := .int, accessFlags := 25, slot := 3, constantValue := 0 }, { name := "BYTES", type := .int, accessFlags := 25, slot := 4, constantValue := 0 }, { name := "serialVersionUID", type := .long, accessFlags := 26, slot := 5, constantValue := 0 }]
  methods := #[k8m0]
  instanceTypes := #[.long]
  staticTypes := #[.long, .long, (.object "java/lang/Class"), .int, .int, .long]
  resolved := Array.replicate 524 none
  statics := none }

def pool9 : Array CpInfo := pool [(1, .class_ 2), (0, u "java/lang/Integer"), (16, u "digits"), (0, u "[C"), (32, u "numberOfLeadingZeros"), (0, u "(I)I"), (30, u "DigitOnes"), (0, u "[B"), (2, u "DigitTens"), (99, .class_ 190), (0, u "java/lang/Integer$IntegerCache"), (3, u "I"), (8, .class_ 204), (0, u "java/lang/Number"), (2, u "value"), (56, .integer 65536), (37, u "TYPE"), (0, u "Ljava/lang/Class;"), (0, .class_ 305), (0, u "java/lang/Comparable"), (0, .class_ 307), (0, u "java/lang/constant/Constable"), (0, .class_ 309), (0, u "java/lang/constant/ConstantDesc"), (0, u "MIN_VALUE"), (1, u "MAX_VALUE"), (3, u "SIZE"), (1, u "BYTES"), (1, u "serialVersionUID"), (0, u "J")] 131

def k9c0 : Code := { maxStack := 3, maxLocals := 2, code := jdk_33_method_47_code, exceptionTable := #[], attributes := #[] }
def k9m0 : Method := { name := "numberOfLeadingZeros", desc := "(I)I", sig := { parameters := [.int], returnType := some .int }, accessFlags := 9, code := some k9c0 }
/-- java/lang/Integer -/
def k9 : Class := { plain "java/lang/Integer" (some 4) with
  accessFlags := 49
  interfaces := #[5, 6, 7]
  cf := some (fileOf pool9 1 #[.nestMembers #[189]] #[{ accessFlags := 9, nameIndex := 53, descriptorIndex := 54, attributes := #[] }] 49 203 #[304, 306, 308] #[{ accessFlags := 25, nameIndex := 310, descriptorIndex := 194, attributes := #[] }, { accessFlags := 25, nameIndex := 312, descriptorIndex := 194, attributes := #[] }, { accessFlags := 25, nameIndex := 302, descriptorIndex := 303, attributes := #[] }, { accessFlags := 24, nameIndex := 19, descriptorIndex := 20, attributes := #[] }, { accessFlags := 24, nameIndex := 89, descriptorIndex := 86, attributes := #[] }, { accessFlags := 24, nameIndex := 85, descriptorIndex := 86, attributes := #[] }, { accessFlags := 18, nameIndex := 207, descriptorIndex := 194, attributes := #[] }, { accessFlags := 25, nameIndex := 316, descriptorIndex := 194, attributes := #[] }, { accessFlags := 25, nameIndex := 318, descriptorIndex := 194, attributes := #[] }, { accessFlags := 26, nameIndex := 320, descriptorIndex := 321, attributes := #[] }])
  fields := #[{ name := "MIN_VALUE", type := .int, accessFlags := 25, slot := 0, constantValue := 0 }, { name := "MAX_VALUE", type := .int, accessFlags := 25, slot := 1, constantValue := 0 }, { name := "TYPE", type := (.object "java/lang/Class"), accessFlags := 25, slot := 2, constantValue := 0 }, { name := "digits", type := (.array .char), accessFlags := 24, slot := 3, constantValue := 0 }, { name := "DigitTens", type := (.array .byte), accessFlags := 24, slot := 4, constantValue := 0 }, { name := "DigitOnes", type := (.array .byte), accessFlags := 24, slot := 5, constantValue := 0 }, { name := "value", type := .int, accessFlags := 18, slot := 0, constantValue := 0 }, { name := "SIZE", type := .int, accessFlags := 25, slot := 6, constantValue := 0 }, { name := "BYTES", type := .int, accessFlags := 25, slot := 7, constantValue := 0 }, { name := "serialVersionUID", type := .long, accessFlags := 26, slot := 8, constantValue := 0 }]
  methods := #[k9m0]
  instanceTypes := #[.int]
  staticTypes := #[.int, .int, (.object "java/lang/Class"), (.array .char), (.array .byte), (.array .byte), .int, .int, .long]
  resolved := Array.replicate 453 none
  statics := none }

def pool10 : Array CpInfo := pool [(1, u "java/lang/Cloneable"), (0, .class_ 1), (0, u "java/lang/Object"), (0, .class_ 3)] 3

/-- java/lang/Cloneable -/
def k10 : Class := { plain "java/lang/Cloneable" (some 0) with
  accessFlags := 1537
  interfaces := #[]
  cf := some (fileOf pool10 2 #[] #[] 1537 4 #[] #[])
  fields := #[]
  methods := #[]
  instanceTypes := #[]
  staticTypes := #[]
  resolved := Array.replicate 8 none
  statics := none }

/-- the primitive byte -/
def k11 : Class := { plain "byte" none with kind := .primitive 'B', accessFlags := 0x411 }
/-- [B -/
def k12 : Class := { plain "[B" (some 0) with kind := .array 11 .byte, interfaces := #[10, 3], accessFlags := 1041 }

/-- the primitive int -/
def k13 : Class := { plain "int" none with kind := .primitive 'I', accessFlags := 0x411 }
/-- [I -/
def k14 : Class := { plain "[I" (some 0) with kind := .array 13 .int, interfaces := #[10, 3], accessFlags := 1041 }

def heap : Heap := #[]
def classes : Array Class := #[k0, k1, k2, k3, k4, k5, k6, k7, k8, k9, k10, k11, k12, k13, k14]
def interned : List (Array UInt16 × Addr) := []
def slotsUsed : Nat := 0
def theMethod : MethodId := ⟨1, 1⟩
def args0 : Array Value := #[.int 5, .int 300, .int 7, .long 9]
def aboutOver (below : List Frame) : State where
  vm := { classes := classes, interned := interned.toArray }
  heap := heap
  slotsUsed := slotsUsed
  threads := #[{ frames := .invoking theMethod args0 :: below }]
def below0 : List Frame := [.native { method := ⟨0, 0⟩, args := #[] }]
def about1 : State := aboutOver below0
def p0 : Program := .bare "" "" ""
def e0 : Env := launch0.env 0 0 0
theorem w_frames : about1.frames = Frame.invoking theMethod args0 :: below0 := rfl
set_option maxRecDepth 65536 in
theorem w_args : argsFit about1.vm theMethod args0 = true := by decide +kernel
set_option maxRecDepth 65536 in
theorem w_heap : heapFits about1 = true := by decide +kernel
set_option maxRecDepth 65536 in
theorem w_runnable : about1.curStatus? = some .runnable := by decide +kernel
set_option maxRecDepth 65536 in
theorem w_alone : about1.alone = true := by decide +kernel
set_option maxRecDepth 65536 in
theorem w_named : about1.methodNamed? x = some theMethod := by decide +kernel
set_option maxRecDepth 65536 in
theorem w_hears : about1.hears theMethod below0 = true := by decide +kernel
set_option maxRecDepth 65536 in
theorem w_ripe : about1.ripe theMethod args0 below0 = true := by decide +kernel
theorem w_running : about1.status = .running := rfl
set_option maxRecDepth 65536 in
theorem w_room : about1.hasRoom e0.platform room_1 = true :=
  launch0.hasRoom_least _ room_1 (by decide +kernel) (by decide +kernel) (by decide +kernel) (by decide +kernel) (by decide +kernel) (by decide +kernel)
theorem allAtoms_all (ts : List Jvm.Cond) (a : Array Jvm.Value) (st : Jvm.State) : (allAtoms ts).before a st = ts.all (fun c => c.before a st) := by
  induction ts with
  | nil => rfl
  | cons c t ih =>
    show (Jvm.Cond.and c (allAtoms t)).before a st = _
    rw [Jvm.Cond.before_and, ih, List.all_cons]
def words1 : List Jvm.Cond := Jvm.Cond.code x code maxLocals ret :: tables_1
/-- a 'code' word, met by the world's own term for the bytes: nothing is compared byte by byte -/
theorem code_word {y : MethodName} {bytes : ByteArray} {mx : Nat} {rt : Option FieldType} {a : Array Value} {s : State} {m : MethodId} {meth : Method} {c : Code} (h1 : s.methodNamed? y = some m) (h2 : s.vm.method? m = some meth) (h3 : meth.code = some c) (h4 : c.code = bytes)
    (h5 : (c.maxLocals == mx && c.exceptionTable.isEmpty && decide (c.maxStack ≤ mostOperands) && decide (meth.sig.returnType = rt) && !meth.locks && decide (parseMethodDescriptor y.desc = some meth.sig)) = true) : (Jvm.Cond.code y bytes mx rt).before a s = true := by
  simp only [Bool.and_eq_true, beq_iff_eq, Bool.not_eq_true', decide_eq_true_eq] at h5
  obtain ⟨⟨⟨⟨⟨g1, g2⟩, g3⟩, g4⟩, g5⟩, g6⟩ := h5
  simp [Cond.before, Cond.holds, Cond.value, h1, h2, h3, h4, g1, g2, g3, g4, g5, g6]
def isCode : Jvm.Cond → Bool
  | .code _ _ _ _ => true
  | _ => false
theorem all_split {L : List Jvm.Cond} {P : Jvm.Cond → Bool} (h1 : L.all (fun c => isCode c || P c) = true) (h2 : ∀ c ∈ L.filter isCode, P c = true) : L.all P = true := by
  refine List.all_eq_true.mpr fun c hc => ?_
  have h := List.all_eq_true.mp h1 c hc
  rcases Bool.eq_false_or_eq_true (isCode c) with hi | hi
  · exact h2 c (List.mem_filter.mpr ⟨hc, hi⟩)
  · simpa [hi] using h
set_option maxRecDepth 65536 in
theorem w_c0 : (Jvm.Cond.code x code maxLocals ret).before args0 about1 = true := code_word (m := ⟨1, 1⟩) (meth := k1m1) (c := k1c1) (by decide +kernel) rfl rfl rfl (by decide +kernel)
set_option maxRecDepth 65536 in
theorem w_c1 : (Jvm.Cond.code ({ cls := "com/example/outboard/outboard/SizeClasses", name := "classOf", desc := "(J)I" } : Jvm.MethodName) prog_5_method_5_code (3 : Nat) (Option.some Jvm.ClassFile.FieldType.int)).before args0 about1 = true := code_word (m := ⟨2, 3⟩) (meth := k2m3) (c := k2c3) (by decide +kernel) rfl rfl rfl (by decide +kernel)
set_option maxRecDepth 65536 in
theorem w_c2 : (Jvm.Cond.code ({ cls := "com/example/outboard/outboard/SizeClasses", name := "band", desc := "(J)I" } : Jvm.MethodName) prog_5_method_3_code (3 : Nat) (Option.some Jvm.ClassFile.FieldType.int)).before args0 about1 = true := code_word (m := ⟨2, 2⟩) (meth := k2m2) (c := k2c2) (by decide +kernel) rfl rfl rfl (by decide +kernel)
set_option maxRecDepth 65536 in
theorem w_c3 : (Jvm.Cond.code ({ cls := "com/example/outboard/outboard/SizeClasses", name := "log2", desc := "(J)I" } : Jvm.MethodName) prog_5_method_2_code (2 : Nat) (Option.some Jvm.ClassFile.FieldType.int)).before args0 about1 = true := code_word (m := ⟨2, 1⟩) (meth := k2m1) (c := k2c1) (by decide +kernel) rfl rfl rfl (by decide +kernel)
set_option maxRecDepth 65536 in
theorem w_c4 : (Jvm.Cond.code ({ cls := "java/lang/Long", name := "numberOfLeadingZeros", desc := "(J)I" } : Jvm.MethodName) jdk_35_method_48_code (3 : Nat) (Option.some Jvm.ClassFile.FieldType.int)).before args0 about1 = true := code_word (m := ⟨8, 0⟩) (meth := k8m0) (c := k8c0) (by decide +kernel) rfl rfl rfl (by decide +kernel)
set_option maxRecDepth 65536 in
theorem w_c5 : (Jvm.Cond.code ({ cls := "java/lang/Integer", name := "numberOfLeadingZeros", desc := "(I)I" } : Jvm.MethodName) jdk_33_method_47_code (2 : Nat) (Option.some Jvm.ClassFile.FieldType.int)).before args0 about1 = true := code_word (m := ⟨9, 0⟩) (meth := k9m0) (c := k9c0) (by decide +kernel) rfl rfl rfl (by decide +kernel)
def codes1 : List Jvm.Cond := [Jvm.Cond.code x code maxLocals ret, Jvm.Cond.code ({ cls := "com/example/outboard/outboard/SizeClasses", name := "classOf", desc := "(J)I" } : Jvm.MethodName) prog_5_method_5_code (3 : Nat) (Option.some Jvm.ClassFile.FieldType.int), Jvm.Cond.code ({ cls := "com/example/outboard/outboard/SizeClasses", name := "band", desc := "(J)I" } : Jvm.MethodName) prog_5_method_3_code (3 : Nat) (Option.some Jvm.ClassFile.FieldType.int), Jvm.Cond.code ({ cls := "com/example/outboard/outboard/SizeClasses", name := "log2", desc := "(J)I" } : Jvm.MethodName) prog_5_method_2_code (2 : Nat) (Option.some Jvm.ClassFile.FieldType.int), Jvm.Cond.code ({ cls := "java/lang/Long", name := "numberOfLeadingZeros", desc := "(J)I" } : Jvm.MethodName) jdk_35_method_48_code (3 : Nat) (Option.some Jvm.ClassFile.FieldType.int), Jvm.Cond.code ({ cls := "java/lang/Integer", name := "numberOfLeadingZeros", desc := "(I)I" } : Jvm.MethodName) jdk_33_method_47_code (2 : Nat) (Option.some Jvm.ClassFile.FieldType.int)]
set_option maxRecDepth 65536 in
theorem codes_eq : words1.filter isCode = codes1 := rfl
theorem w_codes : ∀ c ∈ words1.filter isCode, c.before args0 about1 = true := by
  rw [codes_eq]
  intro c hc
  simp only [codes1, List.mem_cons, List.not_mem_nil, or_false] at hc
  rcases hc with rfl | rfl | rfl | rfl | rfl | rfl
  · exact w_c0
  · exact w_c1
  · exact w_c2
  · exact w_c3
  · exact w_c4
  · exact w_c5
set_option maxRecDepth 65536 in
theorem w_t1 : (words1.take 24).all (fun c => isCode c || c.before args0 about1) = true := by decide +kernel
set_option maxRecDepth 65536 in
theorem w_t2 : (words1.drop 24).all (fun c => isCode c || c.before args0 about1) = true := by decide +kernel
theorem w_tables : (allAtoms (Jvm.Cond.code x code maxLocals ret :: tables_1)).before args0 about1 = true := by
  rw [allAtoms_all]
  show words1.all (fun c => c.before args0 about1) = true
  refine all_split ?_ w_codes
  rw [← List.take_append_drop 24 words1, List.all_append, w_t1, w_t2]
  rfl
set_option maxRecDepth 65536 in
theorem w_case : (Jvm.Cond.and given_1 narrow_1).before args0 about1 = true := by decide +kernel
theorem w_applies : (headSpec (Jvm.Cond.code x code maxLocals ret :: tables_1) room_1).applies x e0.platform about1 = true :=
  (Spec.applies_iff w_frames).mpr ⟨w_running, w_runnable, w_alone, w_named, w_hears, w_ripe, w_room, w_tables⟩
theorem atStart : AtStart classFile x code maxLocals ret World_1 tables_1 room_1 Calls_1 rest_1 Pre_1 launch0 p0 e0 about1 theMethod args0 below0 :=
  ⟨lists_1, trivial, launch0.admits_env _ _ _, launch0.least_env, fairChoices_fair.cas, fairChoices_fair.clock, w_frames, w_args, w_heap, w_applies, trivial, trivial, w_case⟩
end start1
theorem witness_1 : WitnessClaimed_1 := ⟨start1.p0, start1.e0, start1.about1, start1.theMethod, start1.args0, start1.below0, start1.atStart⟩
end Jvm.Pilot.@@N@@
