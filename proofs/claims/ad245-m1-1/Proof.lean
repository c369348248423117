import JvmDerived
import JvmDerived.Pilot.@@N@@Statement
import JvmDerived.Pilot.@@N@@Code
set_option linter.unusedVariables false
set_option linter.unusedSimpArgs false
namespace Jvm.RoadKit
open Sem ClassFile Op Lib Jvm.Stand Jvm.Free Jvm.LawKit
section New
variable {p : Program} {l : Launch} {e : Env} {R : Room} {s : State} {m : MethodId} {args : Array Value} {below : List Frame} {meth : Method} {c : Code} {T : State} {locs : List Loc} {cells slots : Nat}
theorem retI (X : Stand p l e R s m args below meth c T locs cells slots) (hx : p.tables.exec = Jvm.exec) {pc : Nat} {Ls : Array Slot} {z : Int32} {rest : List Value} (hret : meth.sig.returnType = some .int) (hd : decode c.code pc = .ok (.ireturn, 1)) {fs : List Frame}
    (hl : ∀ (f : JFrame) (acts : List Action), f.method = m → f.locked = none → f.entered = [] → (doReturn e (T.setTop f) acts (some (.int z))).1 = T.setFrames fs) : Steps p.tables e below (T.setTop (mkF m pc Ls (.int z :: rest))) (T.setFrames fs) := by
  have hm' : T.vm.method? m = some meth := X.method'
  have hn : narrow .int (.int z) = .int z := rfl
  show Steps p.tables e below (T.setTop { method := m, pc := pc, locals := Ls, stack := _ :: rest, locked := none }) _
  jvm_step X.here [X.here.top, hx, hd, hm', hret, hn]
  first | (intro acts; rw [hl _ acts rfl rfl rfl]) | rw [hl _ _ rfl rfl rfl]
  exact Steps.refl _
end New
end Jvm.RoadKit
namespace Jvm.Pilot.@@N@@
open Jvm Jvm.ClassFile Sem Op Lib Jvm.Free Jvm.Stand Jvm.LawKit Jvm.RoadKit Bundle Jvm.Pilot.@@N@@.Jvm.D
theorem own_nar0 : nar .boolean (0 : Int32) = (0 : Int32) := rfl
theorem own_nar1 : nar .boolean (1 : Int32) = (1 : Int32) := rfl
def wF (d : Int64) (k : Int32) : Int32 := (((d.toUInt64 >>> (((8 : Int32) * k) &&& 0x3f).toInt64.toUInt64).toInt64) &&& (255 : Int64)).toInt32
def digF (d : Int64) (k : Int32) : Int32 := wF d k - (wF d k / (10 : Int32)) * (10 : Int32)
def nF (o : Int32) : Int32 := (o &&& (7 : Int32)) + (1 : Int32)
def pcF (x s : Int32) : Int64 := (((48 : Int32) + x).toInt64) <<< (s &&& 0x3f).toInt64
def dwF (d : Int64) : Int64 := ((((((((48 : Int32) + digF d 0).toInt64 ||| pcF (digF d 1) 8) ||| pcF (digF d 2) 16) ||| pcF (digF d 3) 24) ||| pcF (digF d 4) 32) ||| pcF (digF d 5) 40) ||| pcF (digF d 6) 48) ||| pcF (digF d 7) 56
def lowF (n : Int32) : Int64 := if n = 8 then (-1 : Int64) else ((1 : Int64) <<< (((8 : Int32) * n) &&& 0x3f).toInt64) - (1 : Int64)
def wordF (d g : Int64) (n : Int32) : Int64 := (dwF d &&& lowF n) ||| (g &&& (lowF n ^^^ (-1 : Int64)))
def upF (p : Int64) (x : Int32) : Int64 := p * (10 : Int64) + x.toInt64
def e0F (d : Int64) : Int64 := (digF d 0).toInt64
def e1F (d : Int64) (n : Int32) : Int64 := if (1 : Int32) < n then upF (e0F d) (digF d 1) else e0F d
def e2F (d : Int64) (n : Int32) : Int64 := if (2 : Int32) < n then upF (e1F d n) (digF d 2) else e1F d n
def e3F (d : Int64) (n : Int32) : Int64 := if (3 : Int32) < n then upF (e2F d n) (digF d 3) else e2F d n
def e4F (d : Int64) (n : Int32) : Int64 := if (4 : Int32) < n then upF (e3F d n) (digF d 4) else e3F d n
def e5F (d : Int64) (n : Int32) : Int64 := if (5 : Int32) < n then upF (e4F d n) (digF d 5) else e4F d n
def e6F (d : Int64) (n : Int32) : Int64 := if (6 : Int32) < n then upF (e5F d n) (digF d 6) else e5F d n
def e7F (d : Int64) (n : Int32) : Int64 := if (7 : Int32) < n then upF (e6F d n) (digF d 7) else e6F d n
def v1F (w : Int64) (n : Int32) : Int64 := (w &&& (1085102592571150095 : Int64)) <<< (((8 : Int32) * ((8 : Int32) - n)) &&& 0x3f).toInt64
def v2F (w : Int64) (n : Int32) : Int64 := (((v1F w n * (2561 : Int64)).toUInt64 >>> ((8 : Int32) &&& 0x3f).toInt64.toUInt64).toInt64) &&& (71777214294589695 : Int64)
def v3F (w : Int64) (n : Int32) : Int64 := (((v2F w n * (6553601 : Int64)).toUInt64 >>> ((16 : Int32) &&& 0x3f).toInt64.toUInt64).toInt64) &&& (281470681808895 : Int64)
def valF (w : Int64) (n : Int32) : Int64 := ((v3F w n * (42949672960001 : Int64)).toUInt64 >>> ((32 : Int32) &&& 0x3f).toInt64.toUInt64).toInt64
def lawF (d g : Int64) (o : Int32) : Int32 := if valF (wordF d g (nF o)) (nF o) = e7F d (nF o) then 1 else 0
-- numbers of words
abbrev nt (x : Int64) : Nat := x.toBitVec.toNat
theorem nt_shl (x : Int64) (q : Int32) (k : Nat) (hk : q.toBitVec.toNat % 64 = k) : nt (x <<< (q &&& 0x3f).toInt64) = nt x * 2 ^ k % 2 ^ 64 := by
  show (x.toBitVec <<< ((q &&& 0x3f).toInt64.toBitVec.smod 64)).toNat = _
  rw [BitVec.shiftLeft_eq', (sm64 q k hk).1, smod64 k (sm64 q k hk).2, BitVec.toNat_shiftLeft, Nat.shiftLeft_eq]
theorem nt_shr (x : Int64) (q : Int32) (k : Nat) (hk : q.toBitVec.toNat % 64 = k) : nt ((x.toUInt64 >>> (q &&& 0x3f).toInt64.toUInt64).toInt64) = nt x / 2 ^ k := by
  have h5 := (sm64 q k hk).2
  show (x.toBitVec >>> ((q &&& 0x3f).toInt64.toBitVec % 64)).toNat = _
  rw [BitVec.ushiftRight_eq', BitVec.toNat_ushiftRight, Nat.shiftRight_eq_div_pow, BitVec.toNat_umod, (sm64 q k hk).1, BitVec.toNat_ofNat]
  congr 2
  show k % 2 ^ 64 % 64 = k
  omega
theorem nt_mul (x y : Int64) : nt (x * y) = nt x * nt y % 2 ^ 64 := BitVec.toNat_mul ..
theorem nt_and (x y : Int64) : nt (x &&& y) = nt x &&& nt y := BitVec.toNat_and ..
theorem nt_or (x y : Int64) : nt (x ||| y) = nt x ||| nt y := BitVec.toNat_or ..
theorem nt_lt (x : Int64) : nt x < 2 ^ 64 := x.toBitVec.isLt
theorem nt_int {x : Int64} (h : 0 ≤ x.toInt) : (nt x : Int) = x.toInt := by
  show (x.toBitVec.toNat : Int) = x.toBitVec.toInt
  have h' : 0 ≤ x.toBitVec.toInt := h
  have := x.toBitVec.isLt
  rw [BitVec.toInt_eq_toNat_cond] at h' ⊢
  split <;> split at h' <;> omega
theorem int_nt {x : Int64} (h : nt x < 2 ^ 63) : x.toInt = (nt x : Int) := by
  show x.toBitVec.toInt = (x.toBitVec.toNat : Int)
  have h' : x.toBitVec.toNat < 2 ^ 63 := h
  rw [BitVec.toInt_eq_toNat_cond, if_pos (by omega)]
theorem and_low {a x b m : Nat} (k : Nat) (ha : a < 2 ^ k) (hb : b < 2 ^ k) : (a + 2 ^ k * x) &&& (b + 2 ^ k * m) = (a &&& b) + 2 ^ k * (x &&& m) := by
  have p := Nat.two_pow_pos k
  have h1 := Nat.and_mod_two_pow (a := a + 2 ^ k * x) (b := b + 2 ^ k * m) (n := k)
  have h2 := Nat.and_div_two_pow (a := a + 2 ^ k * x) (b := b + 2 ^ k * m) (n := k)
  rw [Nat.add_mul_mod_self_left, Nat.add_mul_mod_self_left, Nat.mod_eq_of_lt ha, Nat.mod_eq_of_lt hb] at h1
  rw [Nat.add_mul_div_left _ _ p, Nat.add_mul_div_left _ _ p, Nat.div_eq_of_lt ha, Nat.div_eq_of_lt hb, Nat.zero_add, Nat.zero_add] at h2
  rw [← h1, ← h2]
  exact (Nat.mod_add_div _ _).symm
theorem or_low {a x : Nat} (k : Nat) (ha : a < 2 ^ k) : a ||| (x * 2 ^ k) = a + x * 2 ^ k := by
  rw [Nat.or_comm, Nat.add_comm, ← Nat.shiftLeft_eq, Nat.shiftLeft_add_eq_or_of_lt ha]
theorem dig_rng (d : Int64) (k : Int32) : ∃ z : Nat, z ≤ 9 ∧ (digF d k).toInt = z := by
  have h1 : ((((d.toUInt64 >>> (((8 : Int32) * k) &&& 0x3f).toInt64.toUInt64).toInt64) &&& (255 : Int64))).toInt = _ := c_maskL _ 255 8 (by decide) (by decide)
  have h2 := c_l2i ((((d.toUInt64 >>> (((8 : Int32) * k) &&& 0x3f).toInt64.toUInt64).toInt64) &&& (255 : Int64)))
  have r2 := rng32 (wF d k)
  change ((wF d k).toInt - _) % _ = 0 at h2
  have h3 : 0 ≤ (wF d k).toInt := by omega
  have h4 := (c_irem (wF d k) 10 10 rfl).1 h3
  have e : digF d k = wF d k % 10 := irem_eq_mod _ _
  rw [← e] at h4
  exact ⟨(digF d k).toInt.toNat, by omega, by omega⟩
theorem pc_nt (x q : Int32) (z k : Nat) (hz : z ≤ 9) (hx : x.toInt = z) (hk : q.toBitVec.toNat % 64 = k) (hk2 : k ≤ 56) : nt (pcF x q) = (48 + z) * 2 ^ k := by
  have a1 := c_iadd 48 x
  have r1 := rng32 (48 + x)
  rw [show (48 : Int32).toInt = 48 from rfl] at a1
  have a2 := c_i2l (48 + x)
  have e : nt (48 + x).toInt64 = 48 + z := by have := nt_int (x := (48 + x).toInt64) (by omega); omega
  show nt (((48 : Int32) + x).toInt64 <<< (q &&& 0x3f).toInt64) = _
  rw [nt_shl _ q k hk, e]
  refine Nat.mod_eq_of_lt ?_
  have : 2 ^ k ≤ 2 ^ 56 := Nat.pow_le_pow_right (by decide) hk2
  have h2 : (48 + z) * 2 ^ k ≤ 57 * 2 ^ 56 := Nat.mul_le_mul (by omega) this
  exact Nat.lt_of_le_of_lt h2 (by decide)
/-- the eight digits' bytes -/
theorem dw_nt (d : Int64) (z0 z1 z2 z3 z4 z5 z6 z7 : Nat) (b0 : z0 ≤ 9) (b1 : z1 ≤ 9) (b2 : z2 ≤ 9) (b3 : z3 ≤ 9) (b4 : z4 ≤ 9) (b5 : z5 ≤ 9) (b6 : z6 ≤ 9) (b7 : z7 ≤ 9)
    (h0 : (digF d 0).toInt = z0) (h1 : (digF d 1).toInt = z1) (h2 : (digF d 2).toInt = z2) (h3 : (digF d 3).toInt = z3) (h4 : (digF d 4).toInt = z4) (h5 : (digF d 5).toInt = z5) (h6 : (digF d 6).toInt = z6) (h7 : (digF d 7).toInt = z7) :
    nt (dwF d) = (48 + z0) + 2 ^ 8 * ((48 + z1) + 2 ^ 8 * ((48 + z2) + 2 ^ 8 * ((48 + z3) + 2 ^ 8 * ((48 + z4) + 2 ^ 8 * ((48 + z5) + 2 ^ 8 * ((48 + z6) + 2 ^ 8 * (48 + z7))))))) := by
  have e0 : nt ((48 : Int32) + digF d 0).toInt64 = 48 + z0 := by
    have a1 := c_iadd 48 (digF d 0)
    have r1 := rng32 (48 + digF d 0)
    rw [show (48 : Int32).toInt = 48 from rfl] at a1
    have a2 := c_i2l (48 + digF d 0)
    have := nt_int (x := (48 + digF d 0).toInt64) (by omega); omega
  unfold dwF
  rw [nt_or, nt_or, nt_or, nt_or, nt_or, nt_or, nt_or, e0, pc_nt _ 8 z1 8 b1 h1 (by decide) (by decide), pc_nt _ 16 z2 16 b2 h2 (by decide) (by decide), pc_nt _ 24 z3 24 b3 h3 (by decide) (by decide), pc_nt _ 32 z4 32 b4 h4 (by decide) (by decide), pc_nt _ 40 z5 40 b5 h5 (by decide) (by decide), pc_nt _ 48 z6 48 b6 h6 (by decide) (by decide), pc_nt _ 56 z7 56 b7 h7 (by decide) (by decide)]
  rw [or_low 8 (by omega), or_low 16 (by omega), or_low 24 (by omega), or_low 32 (by omega), or_low 40 (by omega), or_low 48 (by omega), or_low 56 (by omega)]
  omega
theorem nib : ∀ z : Nat, z ≤ 9 → (48 + z) &&& 15 = z := by
  intro z hz
  have : ∀ z : Fin 10, (48 + z.val) &&& 15 = z.val := by decide
  exact this ⟨z, by omega⟩
theorem nib8 {z x m : Nat} (hz : z ≤ 9) : ((48 + z) + 2 ^ 8 * x) &&& (15 + 2 ^ 8 * m) = z + 2 ^ 8 * (x &&& m) := by
  rw [and_low 8 (by omega) (by decide), nib z hz]
theorem dw_and (z0 z1 z2 z3 z4 z5 z6 z7 : Nat) (b0 : z0 ≤ 9) (b1 : z1 ≤ 9) (b2 : z2 ≤ 9) (b3 : z3 ≤ 9) (b4 : z4 ≤ 9) (b5 : z5 ≤ 9) (b6 : z6 ≤ 9) (b7 : z7 ≤ 9) :
    ((48 + z0) + 2 ^ 8 * ((48 + z1) + 2 ^ 8 * ((48 + z2) + 2 ^ 8 * ((48 + z3) + 2 ^ 8 * ((48 + z4) + 2 ^ 8 * ((48 + z5) + 2 ^ 8 * ((48 + z6) + 2 ^ 8 * (48 + z7)))))))) &&& 1085102592571150095
      = z0 + 2 ^ 8 * (z1 + 2 ^ 8 * (z2 + 2 ^ 8 * (z3 + 2 ^ 8 * (z4 + 2 ^ 8 * (z5 + 2 ^ 8 * (z6 + 2 ^ 8 * z7)))))) := by
  rw [show (1085102592571150095 : Nat) = 15 + 2 ^ 8 * (15 + 2 ^ 8 * (15 + 2 ^ 8 * (15 + 2 ^ 8 * (15 + 2 ^ 8 * (15 + 2 ^ 8 * (15 + 2 ^ 8 * 15)))))) from by decide]
  rw [nib8 b0, nib8 b1, nib8 b2, nib8 b3, nib8 b4, nib8 b5, nib8 b6, nib z7 b7]
theorem mod_div {x a K t : Nat} (w : Nat) (ha : a < 2 ^ w) (e : x = (a + 2 ^ w * K) + 2 ^ 64 * t) (hb : a + 2 ^ w * K < 2 ^ 64) : x % 2 ^ 64 / 2 ^ w = K := by
  rw [e, Nat.add_mul_mod_self_left, Nat.mod_eq_of_lt hb, Nat.add_mul_div_left _ _ (Nat.two_pow_pos w), Nat.div_eq_of_lt ha, Nat.zero_add]
theorem m8 {a x m : Nat} (h : a < 2 ^ 8) : (a + 2 ^ 8 * x) &&& (255 + 2 ^ 8 * m) = a + 2 ^ 8 * (x &&& m) := by rw [and_low 8 h (by decide), show (255 : Nat) = 2 ^ 8 - 1 from rfl, Nat.and_two_pow_sub_one_eq_mod, Nat.mod_eq_of_lt h]
theorem m0 {a x m : Nat} (h : a < 2 ^ 8) : (a + 2 ^ 8 * x) &&& (0 + 2 ^ 8 * m) = 0 + 2 ^ 8 * (x &&& m) := by rw [and_low 8 h (by decide), Nat.and_zero]
theorem m8z {a : Nat} (h : a < 2 ^ 8) : a &&& 255 = a := by rw [show (255 : Nat) = 2 ^ 8 - 1 from rfl, Nat.and_two_pow_sub_one_eq_mod, Nat.mod_eq_of_lt h]
theorem m16 {a : Nat} (h : a < 2 ^ 16) : a &&& 65535 = a := by rw [show (65535 : Nat) = 2 ^ 16 - 1 from rfl, Nat.and_two_pow_sub_one_eq_mod, Nat.mod_eq_of_lt h]
theorem lt64 {a s1 s2 s3 s4 s5 s6 s7 : Nat} (h0 : a < 256) (h1 : s1 < 256) (h2 : s2 < 256) (h3 : s3 < 256) (h4 : s4 < 256) (h5 : s5 < 256) (h6 : s6 < 256) (h7 : s7 < 256) : a + 2 ^ 8 * (s1 + 2 ^ 8 * (s2 + 2 ^ 8 * (s3 + 2 ^ 8 * (s4 + 2 ^ 8 * (s5 + 2 ^ 8 * (s6 + 2 ^ 8 * s7)))))) < 2 ^ 64 := by omega
/-- the three folding steps over eight bytes of 0 to 9 -/
theorem fold_1 (v1 e0 e1 e2 e3 e4 e5 e6 e7 : Nat) (b0 : e0 ≤ 9) (b1 : e1 ≤ 9) (b2 : e2 ≤ 9) (b3 : e3 ≤ 9) (b4 : e4 ≤ 9) (b5 : e5 ≤ 9) (b6 : e6 ≤ 9) (b7 : e7 ≤ 9)
    (h1 : v1 = e0 + 2 ^ 8 * (e1 + 2 ^ 8 * (e2 + 2 ^ 8 * (e3 + 2 ^ 8 * (e4 + 2 ^ 8 * (e5 + 2 ^ 8 * (e6 + 2 ^ 8 * e7))))))) :
    (v1 * 2561 % 2 ^ 64 / 2 ^ 8) &&& 71777214294589695 = (e1 + 10 * e0) + 2 ^ 16 * ((e3 + 10 * e2) + 2 ^ 16 * ((e5 + 10 * e4) + 2 ^ 16 * (e7 + 10 * e6))) := by
  have c1 : e1 + 10 * e0 < 256 := by clear h1; omega
  have c2 : e2 + 10 * e1 < 256 := by clear h1; omega
  have c3 : e3 + 10 * e2 < 256 := by clear h1; omega
  have c4 : e4 + 10 * e3 < 256 := by clear h1; omega
  have c5 : e5 + 10 * e4 < 256 := by clear h1; omega
  have c6 : e6 + 10 * e5 < 256 := by clear h1; omega
  have c7 : e7 + 10 * e6 < 256 := by clear h1; omega
  have k1 : v1 * 2561 % 2 ^ 64 / 2 ^ 8 = (e1 + 10 * e0) + 2 ^ 8 * ((e2 + 10 * e1) + 2 ^ 8 * ((e3 + 10 * e2) + 2 ^ 8 * ((e4 + 10 * e3) + 2 ^ 8 * ((e5 + 10 * e4) + 2 ^ 8 * ((e6 + 10 * e5) + 2 ^ 8 * (e7 + 10 * e6)))))) := by
    refine mod_div (a := e0) (t := 10 * e7) 8 (by omega) ?_ ?_
    · rw [h1]; clear h1 c1 c2 c3 c4 c5 c6 c7 b0 b1 b2 b3 b4 b5 b6 b7; omega
    · exact lt64 (by omega) c1 c2 c3 c4 c5 c6 c7
  rw [k1, show (71777214294589695 : Nat) = 255 + 2 ^ 8 * (0 + 2 ^ 8 * (255 + 2 ^ 8 * (0 + 2 ^ 8 * (255 + 2 ^ 8 * (0 + 2 ^ 8 * 255))))) from by decide]
  rw [m8 c1, m0 c2, m8 c3, m0 c4, m8 c5, m0 c6, m8z c7]
  clear k1 h1; omega
theorem fold_2 (v2 p0 p1 p2 p3 : Nat) (b0 : p0 ≤ 99) (b1 : p1 ≤ 99) (b2 : p2 ≤ 99) (b3 : p3 ≤ 99) (h : v2 = p0 + 2 ^ 16 * (p1 + 2 ^ 16 * (p2 + 2 ^ 16 * p3))) :
    (v2 * 6553601 % 2 ^ 64 / 2 ^ 16) &&& 281470681808895 = (p1 + 100 * p0) + 2 ^ 32 * (p3 + 100 * p2) := by
  have k3 : v2 * 6553601 % 2 ^ 64 / 2 ^ 16 = (p1 + 100 * p0) + 2 ^ 16 * ((p2 + 100 * p1) + 2 ^ 16 * (p3 + 100 * p2)) := by
    refine mod_div (a := p0) (t := 100 * p3) 16 (by omega) ?_ ?_
    · rw [h]; clear h b0 b1 b2 b3; omega
    · clear h; omega
  rw [k3, show (281470681808895 : Nat) = 65535 + 2 ^ 16 * (0 + 2 ^ 16 * 65535) from by decide]
  rw [and_low 16 (by clear k3 h; omega) (by decide), and_low 16 (by clear k3 h; omega) (by decide), Nat.and_zero, m16 (by clear k3 h; omega), m16 (by clear k3 h; omega)]
  clear k3 h; omega
theorem fold_3 (v3 q0 q1 : Nat) (b0 : q0 ≤ 9999) (b1 : q1 ≤ 9999) (h : v3 = q0 + 2 ^ 32 * q1) : v3 * 42949672960001 % 2 ^ 64 / 2 ^ 32 = q1 + 10000 * q0 := by
  refine mod_div (a := q0) (t := 10000 * q1) 32 (by omega) ?_ ?_
  · rw [h]; clear h b0 b1; omega
  · clear h; omega
theorem fold8 (v1 e0 e1 e2 e3 e4 e5 e6 e7 : Nat) (b0 : e0 ≤ 9) (b1 : e1 ≤ 9) (b2 : e2 ≤ 9) (b3 : e3 ≤ 9) (b4 : e4 ≤ 9) (b5 : e5 ≤ 9) (b6 : e6 ≤ 9) (b7 : e7 ≤ 9)
    (h1 : v1 = e0 + 2 ^ 8 * (e1 + 2 ^ 8 * (e2 + 2 ^ 8 * (e3 + 2 ^ 8 * (e4 + 2 ^ 8 * (e5 + 2 ^ 8 * (e6 + 2 ^ 8 * e7)))))))
    (v2 v3 v4 : Nat) (h2 : v2 = (v1 * 2561 % 2 ^ 64 / 2 ^ 8) &&& 71777214294589695) (h3 : v3 = (v2 * 6553601 % 2 ^ 64 / 2 ^ 16) &&& 281470681808895) (h4 : v4 = v3 * 42949672960001 % 2 ^ 64 / 2 ^ 32) :
    v4 = e0 * 10000000 + e1 * 1000000 + e2 * 100000 + e3 * 10000 + e4 * 1000 + e5 * 100 + e6 * 10 + e7 := by
  have k2 := h2.trans (fold_1 v1 e0 e1 e2 e3 e4 e5 e6 e7 b0 b1 b2 b3 b4 b5 b6 b7 h1)
  have k3 := h3.trans (fold_2 v2 _ _ _ _ (by clear h1 h2 h3 h4 k2; omega) (by clear h1 h2 h3 h4 k2; omega) (by clear h1 h2 h3 h4 k2; omega) (by clear h1 h2 h3 h4 k2; omega) k2)
  have k4 := h4.trans (fold_3 v3 _ _ (by clear h1 h2 h3 h4 k2 k3; omega) (by clear h1 h2 h3 h4 k2 k3; omega) k3)
  rw [k4]; clear h1 h2 h3 h4 k2 k3 k4; omega
theorem nt_xor (x y : Int64) : nt (x ^^^ y) = nt x ^^^ nt y := BitVec.toNat_xor ..
theorem v1_nt (d g : Int64) (n : Int32) (k : Nat) (hk : k ≤ 64) (hlow : nt (lowF n) = 2 ^ k - 1) (hC : nt (lowF n ^^^ (-1 : Int64)) % 2 ^ k = 0) (hs : ((8 : Int32) * ((8 : Int32) - n)).toBitVec.toNat % 64 = 64 - k) :
    nt (v1F (wordF d g n) n) = (nt (dwF d) &&& 1085102592571150095) * 2 ^ (64 - k) % 2 ^ 64 := by
  have key : nt (wordF d g n) % 2 ^ k = nt (dwF d) % 2 ^ k := by
    unfold wordF
    rw [nt_or, nt_and, nt_and, Nat.or_mod_two_pow, Nat.and_mod_two_pow, Nat.and_mod_two_pow, hC, hlow, Nat.and_zero, Nat.or_zero, Nat.mod_eq_of_lt (Nat.sub_lt (Nat.two_pow_pos k) (by decide)), Nat.and_two_pow_sub_one_eq_mod, Nat.mod_mod]
  have e64 : (2 : Nat) ^ 64 = 2 ^ k * 2 ^ (64 - k) := by rw [← Nat.pow_add]; congr 1; omega
  unfold v1F
  rw [nt_shl _ _ (64 - k) hs, nt_and, show nt (1085102592571150095 : Int64) = 1085102592571150095 from by decide]
  rw [e64, Nat.mul_mod_mul_right, Nat.mul_mod_mul_right, Nat.and_mod_two_pow, Nat.and_mod_two_pow, key]
theorem up_int {p : Int64} {x : Int32} {a b : Nat} (hp : p.toInt = a) (hx : x.toInt = b) (ha : a ≤ 100000000) (hb : b ≤ 9) : (upF p x).toInt = (a * 10 + b : Nat) := by
  have a1 := c_lmul p 10
  have r1 := rng64 (p * 10)
  rw [show (10 : Int64).toInt = 10 from rfl, hp] at a1
  have a2 := c_ladd (p * 10) x.toInt64
  have r2 := rng64 (p * 10 + x.toInt64)
  rw [c_i2l, hx] at a2
  unfold upF
  omega
theorem val_nt (w : Int64) (n : Int32) (e0 e1 e2 e3 e4 e5 e6 e7 : Nat) (b0 : e0 ≤ 9) (b1 : e1 ≤ 9) (b2 : e2 ≤ 9) (b3 : e3 ≤ 9) (b4 : e4 ≤ 9) (b5 : e5 ≤ 9) (b6 : e6 ≤ 9) (b7 : e7 ≤ 9)
    (h1 : nt (v1F w n) = e0 + 2 ^ 8 * (e1 + 2 ^ 8 * (e2 + 2 ^ 8 * (e3 + 2 ^ 8 * (e4 + 2 ^ 8 * (e5 + 2 ^ 8 * (e6 + 2 ^ 8 * e7))))))) :
    (valF w n).toInt = (e0 * 10000000 + e1 * 1000000 + e2 * 100000 + e3 * 10000 + e4 * 1000 + e5 * 100 + e6 * 10 + e7 : Nat) := by
  have k2 : nt (v2F w n) = (nt (v1F w n) * 2561 % 2 ^ 64 / 2 ^ 8) &&& 71777214294589695 := by
    unfold v2F; rw [nt_and, nt_shr _ 8 8 (by decide), nt_mul]; rfl
  have k3 : nt (v3F w n) = (nt (v2F w n) * 6553601 % 2 ^ 64 / 2 ^ 16) &&& 281470681808895 := by
    unfold v3F; rw [nt_and, nt_shr _ 16 16 (by decide), nt_mul]; rfl
  have k4 : nt (valF w n) = nt (v3F w n) * 42949672960001 % 2 ^ 64 / 2 ^ 32 := by
    unfold valF; rw [nt_shr _ 32 32 (by decide), nt_mul]; rfl
  have k := fold8 _ e0 e1 e2 e3 e4 e5 e6 e7 b0 b1 b2 b3 b4 b5 b6 b7 h1 _ _ _ k2 k3 k4
  rw [int_nt (by rw [k]; clear h1 k2 k3 k4 k; omega), k]
theorem eq_1 (d g : Int64) : valF (wordF d g 1) 1 = e7F d 1 := by
  obtain ⟨z0, b0, h0⟩ := dig_rng d 0
  obtain ⟨z1, b1, h1⟩ := dig_rng d 1
  obtain ⟨z2, b2, h2⟩ := dig_rng d 2
  obtain ⟨z3, b3, h3⟩ := dig_rng d 3
  obtain ⟨z4, b4, h4⟩ := dig_rng d 4
  obtain ⟨z5, b5, h5⟩ := dig_rng d 5
  obtain ⟨z6, b6, h6⟩ := dig_rng d 6
  obtain ⟨z7, b7, h7⟩ := dig_rng d 7
  have v1 : nt (v1F (wordF d g 1) 1) = 0 + 2 ^ 8 * (0 + 2 ^ 8 * (0 + 2 ^ 8 * (0 + 2 ^ 8 * (0 + 2 ^ 8 * (0 + 2 ^ 8 * (0 + 2 ^ 8 * (z0))))))) := by
    rw [v1_nt d g 1 8 (by decide) (by decide) (by decide) (by decide), dw_nt d z0 z1 z2 z3 z4 z5 z6 z7 b0 b1 b2 b3 b4 b5 b6 b7 h0 h1 h2 h3 h4 h5 h6 h7, dw_and z0 z1 z2 z3 z4 z5 z6 z7 b0 b1 b2 b3 b4 b5 b6 b7]
    rw [show (z0 + 2 ^ 8 * (z1 + 2 ^ 8 * (z2 + 2 ^ 8 * (z3 + 2 ^ 8 * (z4 + 2 ^ 8 * (z5 + 2 ^ 8 * (z6 + 2 ^ 8 * (z7)))))))) * 2 ^ (64 - 8) = (0 + 2 ^ 8 * (0 + 2 ^ 8 * (0 + 2 ^ 8 * (0 + 2 ^ 8 * (0 + 2 ^ 8 * (0 + 2 ^ 8 * (0 + 2 ^ 8 * (z0)))))))) + 2 ^ 64 * (z1 + 2 ^ 8 * (z2 + 2 ^ 8 * (z3 + 2 ^ 8 * (z4 + 2 ^ 8 * (z5 + 2 ^ 8 * (z6 + 2 ^ 8 * (z7))))))) from by clear b0 b1 b2 b3 b4 b5 b6 b7 h0 h1 h2 h3 h4 h5 h6 h7; omega, Nat.add_mul_mod_self_left, Nat.mod_eq_of_lt (lt64 (by omega) (by omega) (by omega) (by omega) (by omega) (by omega) (by omega) (by omega))]
  have v := val_nt (wordF d g 1) 1 0 0 0 0 0 0 0 z0 (by decide) (by decide) (by decide) (by decide) (by decide) (by decide) (by decide) b0 v1
  have t0 : (e0F d).toInt = z0 := (c_i2l _).trans h0
  have t1 : (e1F d 1).toInt = _ := (congrArg Int64.toInt (if_neg (by decide))).trans t0
  have t2 : (e2F d 1).toInt = _ := (congrArg Int64.toInt (if_neg (by decide))).trans t1
  have t3 : (e3F d 1).toInt = _ := (congrArg Int64.toInt (if_neg (by decide))).trans t2
  have t4 : (e4F d 1).toInt = _ := (congrArg Int64.toInt (if_neg (by decide))).trans t3
  have t5 : (e5F d 1).toInt = _ := (congrArg Int64.toInt (if_neg (by decide))).trans t4
  have t6 : (e6F d 1).toInt = _ := (congrArg Int64.toInt (if_neg (by decide))).trans t5
  have t7 : (e7F d 1).toInt = _ := (congrArg Int64.toInt (if_neg (by decide))).trans t6
  apply Int64.toInt_inj.mp
  rw [v, t7]
  clear v v1 h0 h1 h2 h3 h4 h5 h6 h7 b0 b1 b2 b3 b4 b5 b6 b7 t0 t1 t2 t3 t4 t5 t6 t7
  omega
theorem eq_2 (d g : Int64) : valF (wordF d g 2) 2 = e7F d 2 := by
  obtain ⟨z0, b0, h0⟩ := dig_rng d 0
  obtain ⟨z1, b1, h1⟩ := dig_rng d 1
  obtain ⟨z2, b2, h2⟩ := dig_rng d 2
  obtain ⟨z3, b3, h3⟩ := dig_rng d 3
  obtain ⟨z4, b4, h4⟩ := dig_rng d 4
  obtain ⟨z5, b5, h5⟩ := dig_rng d 5
  obtain ⟨z6, b6, h6⟩ := dig_rng d 6
  obtain ⟨z7, b7, h7⟩ := dig_rng d 7
  have v1 : nt (v1F (wordF d g 2) 2) = 0 + 2 ^ 8 * (0 + 2 ^ 8 * (0 + 2 ^ 8 * (0 + 2 ^ 8 * (0 + 2 ^ 8 * (0 + 2 ^ 8 * (z0 + 2 ^ 8 * (z1))))))) := by
    rw [v1_nt d g 2 16 (by decide) (by decide) (by decide) (by decide), dw_nt d z0 z1 z2 z3 z4 z5 z6 z7 b0 b1 b2 b3 b4 b5 b6 b7 h0 h1 h2 h3 h4 h5 h6 h7, dw_and z0 z1 z2 z3 z4 z5 z6 z7 b0 b1 b2 b3 b4 b5 b6 b7]
    rw [show (z0 + 2 ^ 8 * (z1 + 2 ^ 8 * (z2 + 2 ^ 8 * (z3 + 2 ^ 8 * (z4 + 2 ^ 8 * (z5 + 2 ^ 8 * (z6 + 2 ^ 8 * (z7)))))))) * 2 ^ (64 - 16) = (0 + 2 ^ 8 * (0 + 2 ^ 8 * (0 + 2 ^ 8 * (0 + 2 ^ 8 * (0 + 2 ^ 8 * (0 + 2 ^ 8 * (z0 + 2 ^ 8 * (z1)))))))) + 2 ^ 64 * (z2 + 2 ^ 8 * (z3 + 2 ^ 8 * (z4 + 2 ^ 8 * (z5 + 2 ^ 8 * (z6 + 2 ^ 8 * (z7)))))) from by clear b0 b1 b2 b3 b4 b5 b6 b7 h0 h1 h2 h3 h4 h5 h6 h7; omega, Nat.add_mul_mod_self_left, Nat.mod_eq_of_lt (lt64 (by omega) (by omega) (by omega) (by omega) (by omega) (by omega) (by omega) (by omega))]
  have v := val_nt (wordF d g 2) 2 0 0 0 0 0 0 z0 z1 (by decide) (by decide) (by decide) (by decide) (by decide) (by decide) b0 b1 v1
  have t0 : (e0F d).toInt = z0 := (c_i2l _).trans h0
  have t1 : (e1F d 2).toInt = _ := (congrArg Int64.toInt (if_pos (by decide))).trans (up_int t0 h1 (by clear v v1 h0 h1 h2 h3 h4 h5 h6 h7 t0; omega) b1)
  have t2 : (e2F d 2).toInt = _ := (congrArg Int64.toInt (if_neg (by decide))).trans t1
  have t3 : (e3F d 2).toInt = _ := (congrArg Int64.toInt (if_neg (by decide))).trans t2
  have t4 : (e4F d 2).toInt = _ := (congrArg Int64.toInt (if_neg (by decide))).trans t3
  have t5 : (e5F d 2).toInt = _ := (congrArg Int64.toInt (if_neg (by decide))).trans t4
  have t6 : (e6F d 2).toInt = _ := (congrArg Int64.toInt (if_neg (by decide))).trans t5
  have t7 : (e7F d 2).toInt = _ := (congrArg Int64.toInt (if_neg (by decide))).trans t6
  apply Int64.toInt_inj.mp
  rw [v, t7]
  clear v v1 h0 h1 h2 h3 h4 h5 h6 h7 b0 b1 b2 b3 b4 b5 b6 b7 t0 t1 t2 t3 t4 t5 t6 t7
  omega
theorem eq_3 (d g : Int64) : valF (wordF d g 3) 3 = e7F d 3 := by
  obtain ⟨z0, b0, h0⟩ := dig_rng d 0
  obtain ⟨z1, b1, h1⟩ := dig_rng d 1
  obtain ⟨z2, b2, h2⟩ := dig_rng d 2
  obtain ⟨z3, b3, h3⟩ := dig_rng d 3
  obtain ⟨z4, b4, h4⟩ := dig_rng d 4
  obtain ⟨z5, b5, h5⟩ := dig_rng d 5
  obtain ⟨z6, b6, h6⟩ := dig_rng d 6
  obtain ⟨z7, b7, h7⟩ := dig_rng d 7
  have v1 : nt (v1F (wordF d g 3) 3) = 0 + 2 ^ 8 * (0 + 2 ^ 8 * (0 + 2 ^ 8 * (0 + 2 ^ 8 * (0 + 2 ^ 8 * (z0 + 2 ^ 8 * (z1 + 2 ^ 8 * (z2))))))) := by
    rw [v1_nt d g 3 24 (by decide) (by decide) (by decide) (by decide), dw_nt d z0 z1 z2 z3 z4 z5 z6 z7 b0 b1 b2 b3 b4 b5 b6 b7 h0 h1 h2 h3 h4 h5 h6 h7, dw_and z0 z1 z2 z3 z4 z5 z6 z7 b0 b1 b2 b3 b4 b5 b6 b7]
    rw [show (z0 + 2 ^ 8 * (z1 + 2 ^ 8 * (z2 + 2 ^ 8 * (z3 + 2 ^ 8 * (z4 + 2 ^ 8 * (z5 + 2 ^ 8 * (z6 + 2 ^ 8 * (z7)))))))) * 2 ^ (64 - 24) = (0 + 2 ^ 8 * (0 + 2 ^ 8 * (0 + 2 ^ 8 * (0 + 2 ^ 8 * (0 + 2 ^ 8 * (z0 + 2 ^ 8 * (z1 + 2 ^ 8 * (z2)))))))) + 2 ^ 64 * (z3 + 2 ^ 8 * (z4 + 2 ^ 8 * (z5 + 2 ^ 8 * (z6 + 2 ^ 8 * (z7))))) from by clear b0 b1 b2 b3 b4 b5 b6 b7 h0 h1 h2 h3 h4 h5 h6 h7; omega, Nat.add_mul_mod_self_left, Nat.mod_eq_of_lt (lt64 (by omega) (by omega) (by omega) (by omega) (by omega) (by omega) (by omega) (by omega))]
  have v := val_nt (wordF d g 3) 3 0 0 0 0 0 z0 z1 z2 (by decide) (by decide) (by decide) (by decide) (by decide) b0 b1 b2 v1
  have t0 : (e0F d).toInt = z0 := (c_i2l _).trans h0
  have t1 : (e1F d 3).toInt = _ := (congrArg Int64.toInt (if_pos (by decide))).trans (up_int t0 h1 (by clear v v1 h0 h1 h2 h3 h4 h5 h6 h7 t0; omega) b1)
  have t2 : (e2F d 3).toInt = _ := (congrArg Int64.toInt (if_pos (by decide))).trans (up_int t1 h2 (by clear v v1 h0 h1 h2 h3 h4 h5 h6 h7 t0 t1; omega) b2)
  have t3 : (e3F d 3).toInt = _ := (congrArg Int64.toInt (if_neg (by decide))).trans t2
  have t4 : (e4F d 3).toInt = _ := (congrArg Int64.toInt (if_neg (by decide))).trans t3
  have t5 : (e5F d 3).toInt = _ := (congrArg Int64.toInt (if_neg (by decide))).trans t4
  have t6 : (e6F d 3).toInt = _ := (congrArg Int64.toInt (if_neg (by decide))).trans t5
  have t7 : (e7F d 3).toInt = _ := (congrArg Int64.toInt (if_neg (by decide))).trans t6
  apply Int64.toInt_inj.mp
  rw [v, t7]
  clear v v1 h0 h1 h2 h3 h4 h5 h6 h7 b0 b1 b2 b3 b4 b5 b6 b7 t0 t1 t2 t3 t4 t5 t6 t7
  omega
theorem eq_4 (d g : Int64) : valF (wordF d g 4) 4 = e7F d 4 := by
  obtain ⟨z0, b0, h0⟩ := dig_rng d 0
  obtain ⟨z1, b1, h1⟩ := dig_rng d 1
  obtain ⟨z2, b2, h2⟩ := dig_rng d 2
  obtain ⟨z3, b3, h3⟩ := dig_rng d 3
  obtain ⟨z4, b4, h4⟩ := dig_rng d 4
  obtain ⟨z5, b5, h5⟩ := dig_rng d 5
  obtain ⟨z6, b6, h6⟩ := dig_rng d 6
  obtain ⟨z7, b7, h7⟩ := dig_rng d 7
  have v1 : nt (v1F (wordF d g 4) 4) = 0 + 2 ^ 8 * (0 + 2 ^ 8 * (0 + 2 ^ 8 * (0 + 2 ^ 8 * (z0 + 2 ^ 8 * (z1 + 2 ^ 8 * (z2 + 2 ^ 8 * (z3))))))) := by
    rw [v1_nt d g 4 32 (by decide) (by decide) (by decide) (by decide), dw_nt d z0 z1 z2 z3 z4 z5 z6 z7 b0 b1 b2 b3 b4 b5 b6 b7 h0 h1 h2 h3 h4 h5 h6 h7, dw_and z0 z1 z2 z3 z4 z5 z6 z7 b0 b1 b2 b3 b4 b5 b6 b7]
    rw [show (z0 + 2 ^ 8 * (z1 + 2 ^ 8 * (z2 + 2 ^ 8 * (z3 + 2 ^ 8 * (z4 + 2 ^ 8 * (z5 + 2 ^ 8 * (z6 + 2 ^ 8 * (z7)))))))) * 2 ^ (64 - 32) = (0 + 2 ^ 8 * (0 + 2 ^ 8 * (0 + 2 ^ 8 * (0 + 2 ^ 8 * (z0 + 2 ^ 8 * (z1 + 2 ^ 8 * (z2 + 2 ^ 8 * (z3)))))))) + 2 ^ 64 * (z4 + 2 ^ 8 * (z5 + 2 ^ 8 * (z6 + 2 ^ 8 * (z7)))) from by clear b0 b1 b2 b3 b4 b5 b6 b7 h0 h1 h2 h3 h4 h5 h6 h7; omega, Nat.add_mul_mod_self_left, Nat.mod_eq_of_lt (lt64 (by omega) (by omega) (by omega) (by omega) (by omega) (by omega) (by omega) (by omega))]
  have v := val_nt (wordF d g 4) 4 0 0 0 0 z0 z1 z2 z3 (by decide) (by decide) (by decide) (by decide) b0 b1 b2 b3 v1
  have t0 : (e0F d).toInt = z0 := (c_i2l _).trans h0
  have t1 : (e1F d 4).toInt = _ := (congrArg Int64.toInt (if_pos (by decide))).trans (up_int t0 h1 (by clear v v1 h0 h1 h2 h3 h4 h5 h6 h7 t0; omega) b1)
  have t2 : (e2F d 4).toInt = _ := (congrArg Int64.toInt (if_pos (by decide))).trans (up_int t1 h2 (by clear v v1 h0 h1 h2 h3 h4 h5 h6 h7 t0 t1; omega) b2)
  have t3 : (e3F d 4).toInt = _ := (congrArg Int64.toInt (if_pos (by decide))).trans (up_int t2 h3 (by clear v v1 h0 h1 h2 h3 h4 h5 h6 h7 t0 t1 t2; omega) b3)
  have t4 : (e4F d 4).toInt = _ := (congrArg Int64.toInt (if_neg (by decide))).trans t3
  have t5 : (e5F d 4).toInt = _ := (congrArg Int64.toInt (if_neg (by decide))).trans t4
  have t6 : (e6F d 4).toInt = _ := (congrArg Int64.toInt (if_neg (by decide))).trans t5
  have t7 : (e7F d 4).toInt = _ := (congrArg Int64.toInt (if_neg (by decide))).trans t6
  apply Int64.toInt_inj.mp
  rw [v, t7]
  clear v v1 h0 h1 h2 h3 h4 h5 h6 h7 b0 b1 b2 b3 b4 b5 b6 b7 t0 t1 t2 t3 t4 t5 t6 t7
  omega
theorem eq_5 (d g : Int64) : valF (wordF d g 5) 5 = e7F d 5 := by
  obtain ⟨z0, b0, h0⟩ := dig_rng d 0
  obtain ⟨z1, b1, h1⟩ := dig_rng d 1
  obtain ⟨z2, b2, h2⟩ := dig_rng d 2
  obtain ⟨z3, b3, h3⟩ := dig_rng d 3
  obtain ⟨z4, b4, h4⟩ := dig_rng d 4
  obtain ⟨z5, b5, h5⟩ := dig_rng d 5
  obtain ⟨z6, b6, h6⟩ := dig_rng d 6
  obtain ⟨z7, b7, h7⟩ := dig_rng d 7
  have v1 : nt (v1F (wordF d g 5) 5) = 0 + 2 ^ 8 * (0 + 2 ^ 8 * (0 + 2 ^ 8 * (z0 + 2 ^ 8 * (z1 + 2 ^ 8 * (z2 + 2 ^ 8 * (z3 + 2 ^ 8 * (z4))))))) := by
    rw [v1_nt d g 5 40 (by decide) (by decide) (by decide) (by decide), dw_nt d z0 z1 z2 z3 z4 z5 z6 z7 b0 b1 b2 b3 b4 b5 b6 b7 h0 h1 h2 h3 h4 h5 h6 h7, dw_and z0 z1 z2 z3 z4 z5 z6 z7 b0 b1 b2 b3 b4 b5 b6 b7]
    rw [show (z0 + 2 ^ 8 * (z1 + 2 ^ 8 * (z2 + 2 ^ 8 * (z3 + 2 ^ 8 * (z4 + 2 ^ 8 * (z5 + 2 ^ 8 * (z6 + 2 ^ 8 * (z7)))))))) * 2 ^ (64 - 40) = (0 + 2 ^ 8 * (0 + 2 ^ 8 * (0 + 2 ^ 8 * (z0 + 2 ^ 8 * (z1 + 2 ^ 8 * (z2 + 2 ^ 8 * (z3 + 2 ^ 8 * (z4)))))))) + 2 ^ 64 * (z5 + 2 ^ 8 * (z6 + 2 ^ 8 * (z7))) from by clear b0 b1 b2 b3 b4 b5 b6 b7 h0 h1 h2 h3 h4 h5 h6 h7; omega, Nat.add_mul_mod_self_left, Nat.mod_eq_of_lt (lt64 (by omega) (by omega) (by omega) (by omega) (by omega) (by omega) (by omega) (by omega))]
  have v := val_nt (wordF d g 5) 5 0 0 0 z0 z1 z2 z3 z4 (by decide) (by decide) (by decide) b0 b1 b2 b3 b4 v1
  have t0 : (e0F d).toInt = z0 := (c_i2l _).trans h0
  have t1 : (e1F d 5).toInt = _ := (congrArg Int64.toInt (if_pos (by decide))).trans (up_int t0 h1 (by clear v v1 h0 h1 h2 h3 h4 h5 h6 h7 t0; omega) b1)
  have t2 : (e2F d 5).toInt = _ := (congrArg Int64.toInt (if_pos (by decide))).trans (up_int t1 h2 (by clear v v1 h0 h1 h2 h3 h4 h5 h6 h7 t0 t1; omega) b2)
  have t3 : (e3F d 5).toInt = _ := (congrArg Int64.toInt (if_pos (by decide))).trans (up_int t2 h3 (by clear v v1 h0 h1 h2 h3 h4 h5 h6 h7 t0 t1 t2; omega) b3)
  have t4 : (e4F d 5).toInt = _ := (congrArg Int64.toInt (if_pos (by decide))).trans (up_int t3 h4 (by clear v v1 h0 h1 h2 h3 h4 h5 h6 h7 t0 t1 t2 t3; omega) b4)
  have t5 : (e5F d 5).toInt = _ := (congrArg Int64.toInt (if_neg (by decide))).trans t4
  have t6 : (e6F d 5).toInt = _ := (congrArg Int64.toInt (if_neg (by decide))).trans t5
  have t7 : (e7F d 5).toInt = _ := (congrArg Int64.toInt (if_neg (by decide))).trans t6
  apply Int64.toInt_inj.mp
  rw [v, t7]
  clear v v1 h0 h1 h2 h3 h4 h5 h6 h7 b0 b1 b2 b3 b4 b5 b6 b7 t0 t1 t2 t3 t4 t5 t6 t7
  omega
theorem eq_6 (d g : Int64) : valF (wordF d g 6) 6 = e7F d 6 := by
  obtain ⟨z0, b0, h0⟩ := dig_rng d 0
  obtain ⟨z1, b1, h1⟩ := dig_rng d 1
  obtain ⟨z2, b2, h2⟩ := dig_rng d 2
  obtain ⟨z3, b3, h3⟩ := dig_rng d 3
  obtain ⟨z4, b4, h4⟩ := dig_rng d 4
  obtain ⟨z5, b5, h5⟩ := dig_rng d 5
  obtain ⟨z6, b6, h6⟩ := dig_rng d 6
  obtain ⟨z7, b7, h7⟩ := dig_rng d 7
  have v1 : nt (v1F (wordF d g 6) 6) = 0 + 2 ^ 8 * (0 + 2 ^ 8 * (z0 + 2 ^ 8 * (z1 + 2 ^ 8 * (z2 + 2 ^ 8 * (z3 + 2 ^ 8 * (z4 + 2 ^ 8 * (z5))))))) := by
    rw [v1_nt d g 6 48 (by decide) (by decide) (by decide) (by decide), dw_nt d z0 z1 z2 z3 z4 z5 z6 z7 b0 b1 b2 b3 b4 b5 b6 b7 h0 h1 h2 h3 h4 h5 h6 h7, dw_and z0 z1 z2 z3 z4 z5 z6 z7 b0 b1 b2 b3 b4 b5 b6 b7]
    rw [show (z0 + 2 ^ 8 * (z1 + 2 ^ 8 * (z2 + 2 ^ 8 * (z3 + 2 ^ 8 * (z4 + 2 ^ 8 * (z5 + 2 ^ 8 * (z6 + 2 ^ 8 * (z7)))))))) * 2 ^ (64 - 48) = (0 + 2 ^ 8 * (0 + 2 ^ 8 * (z0 + 2 ^ 8 * (z1 + 2 ^ 8 * (z2 + 2 ^ 8 * (z3 + 2 ^ 8 * (z4 + 2 ^ 8 * (z5)))))))) + 2 ^ 64 * (z6 + 2 ^ 8 * (z7)) from by clear b0 b1 b2 b3 b4 b5 b6 b7 h0 h1 h2 h3 h4 h5 h6 h7; omega, Nat.add_mul_mod_self_left, Nat.mod_eq_of_lt (lt64 (by omega) (by omega) (by omega) (by omega) (by omega) (by omega) (by omega) (by omega))]
  have v := val_nt (wordF d g 6) 6 0 0 z0 z1 z2 z3 z4 z5 (by decide) (by decide) b0 b1 b2 b3 b4 b5 v1
  have t0 : (e0F d).toInt = z0 := (c_i2l _).trans h0
  have t1 : (e1F d 6).toInt = _ := (congrArg Int64.toInt (if_pos (by decide))).trans (up_int t0 h1 (by clear v v1 h0 h1 h2 h3 h4 h5 h6 h7 t0; omega) b1)
  have t2 : (e2F d 6).toInt = _ := (congrArg Int64.toInt (if_pos (by decide))).trans (up_int t1 h2 (by clear v v1 h0 h1 h2 h3 h4 h5 h6 h7 t0 t1; omega) b2)
  have t3 : (e3F d 6).toInt = _ := (congrArg Int64.toInt (if_pos (by decide))).trans (up_int t2 h3 (by clear v v1 h0 h1 h2 h3 h4 h5 h6 h7 t0 t1 t2; omega) b3)
  have t4 : (e4F d 6).toInt = _ := (congrArg Int64.toInt (if_pos (by decide))).trans (up_int t3 h4 (by clear v v1 h0 h1 h2 h3 h4 h5 h6 h7 t0 t1 t2 t3; omega) b4)
  have t5 : (e5F d 6).toInt = _ := (congrArg Int64.toInt (if_pos (by decide))).trans (up_int t4 h5 (by clear v v1 h0 h1 h2 h3 h4 h5 h6 h7 t0 t1 t2 t3 t4; omega) b5)
  have t6 : (e6F d 6).toInt = _ := (congrArg Int64.toInt (if_neg (by decide))).trans t5
  have t7 : (e7F d 6).toInt = _ := (congrArg Int64.toInt (if_neg (by decide))).trans t6
  apply Int64.toInt_inj.mp
  rw [v, t7]
  clear v v1 h0 h1 h2 h3 h4 h5 h6 h7 b0 b1 b2 b3 b4 b5 b6 b7 t0 t1 t2 t3 t4 t5 t6 t7
  omega
theorem eq_7 (d g : Int64) : valF (wordF d g 7) 7 = e7F d 7 := by
  obtain ⟨z0, b0, h0⟩ := dig_rng d 0
  obtain ⟨z1, b1, h1⟩ := dig_rng d 1
  obtain ⟨z2, b2, h2⟩ := dig_rng d 2
  obtain ⟨z3, b3, h3⟩ := dig_rng d 3
  obtain ⟨z4, b4, h4⟩ := dig_rng d 4
  obtain ⟨z5, b5, h5⟩ := dig_rng d 5
  obtain ⟨z6, b6, h6⟩ := dig_rng d 6
  obtain ⟨z7, b7, h7⟩ := dig_rng d 7
  have v1 : nt (v1F (wordF d g 7) 7) = 0 + 2 ^ 8 * (z0 + 2 ^ 8 * (z1 + 2 ^ 8 * (z2 + 2 ^ 8 * (z3 + 2 ^ 8 * (z4 + 2 ^ 8 * (z5 + 2 ^ 8 * (z6))))))) := by
    rw [v1_nt d g 7 56 (by decide) (by decide) (by decide) (by decide), dw_nt d z0 z1 z2 z3 z4 z5 z6 z7 b0 b1 b2 b3 b4 b5 b6 b7 h0 h1 h2 h3 h4 h5 h6 h7, dw_and z0 z1 z2 z3 z4 z5 z6 z7 b0 b1 b2 b3 b4 b5 b6 b7]
    rw [show (z0 + 2 ^ 8 * (z1 + 2 ^ 8 * (z2 + 2 ^ 8 * (z3 + 2 ^ 8 * (z4 + 2 ^ 8 * (z5 + 2 ^ 8 * (z6 + 2 ^ 8 * (z7)))))))) * 2 ^ (64 - 56) = (0 + 2 ^ 8 * (z0 + 2 ^ 8 * (z1 + 2 ^ 8 * (z2 + 2 ^ 8 * (z3 + 2 ^ 8 * (z4 + 2 ^ 8 * (z5 + 2 ^ 8 * (z6)))))))) + 2 ^ 64 * (z7) from by clear b0 b1 b2 b3 b4 b5 b6 b7 h0 h1 h2 h3 h4 h5 h6 h7; omega, Nat.add_mul_mod_self_left, Nat.mod_eq_of_lt (lt64 (by omega) (by omega) (by omega) (by omega) (by omega) (by omega) (by omega) (by omega))]
  have v := val_nt (wordF d g 7) 7 0 z0 z1 z2 z3 z4 z5 z6 (by decide) b0 b1 b2 b3 b4 b5 b6 v1
  have t0 : (e0F d).toInt = z0 := (c_i2l _).trans h0
  have t1 : (e1F d 7).toInt = _ := (congrArg Int64.toInt (if_pos (by decide))).trans (up_int t0 h1 (by clear v v1 h0 h1 h2 h3 h4 h5 h6 h7 t0; omega) b1)
  have t2 : (e2F d 7).toInt = _ := (congrArg Int64.toInt (if_pos (by decide))).trans (up_int t1 h2 (by clear v v1 h0 h1 h2 h3 h4 h5 h6 h7 t0 t1; omega) b2)
  have t3 : (e3F d 7).toInt = _ := (congrArg Int64.toInt (if_pos (by decide))).trans (up_int t2 h3 (by clear v v1 h0 h1 h2 h3 h4 h5 h6 h7 t0 t1 t2; omega) b3)
  have t4 : (e4F d 7).toInt = _ := (congrArg Int64.toInt (if_pos (by decide))).trans (up_int t3 h4 (by clear v v1 h0 h1 h2 h3 h4 h5 h6 h7 t0 t1 t2 t3; omega) b4)
  have t5 : (e5F d 7).toInt = _ := (congrArg Int64.toInt (if_pos (by decide))).trans (up_int t4 h5 (by clear v v1 h0 h1 h2 h3 h4 h5 h6 h7 t0 t1 t2 t3 t4; omega) b5)
  have t6 : (e6F d 7).toInt = _ := (congrArg Int64.toInt (if_pos (by decide))).trans (up_int t5 h6 (by clear v v1 h0 h1 h2 h3 h4 h5 h6 h7 t0 t1 t2 t3 t4 t5; omega) b6)
  have t7 : (e7F d 7).toInt = _ := (congrArg Int64.toInt (if_neg (by decide))).trans t6
  apply Int64.toInt_inj.mp
  rw [v, t7]
  clear v v1 h0 h1 h2 h3 h4 h5 h6 h7 b0 b1 b2 b3 b4 b5 b6 b7 t0 t1 t2 t3 t4 t5 t6 t7
  omega
theorem eq_8 (d g : Int64) : valF (wordF d g 8) 8 = e7F d 8 := by
  obtain ⟨z0, b0, h0⟩ := dig_rng d 0
  obtain ⟨z1, b1, h1⟩ := dig_rng d 1
  obtain ⟨z2, b2, h2⟩ := dig_rng d 2
  obtain ⟨z3, b3, h3⟩ := dig_rng d 3
  obtain ⟨z4, b4, h4⟩ := dig_rng d 4
  obtain ⟨z5, b5, h5⟩ := dig_rng d 5
  obtain ⟨z6, b6, h6⟩ := dig_rng d 6
  obtain ⟨z7, b7, h7⟩ := dig_rng d 7
  have v1 : nt (v1F (wordF d g 8) 8) = z0 + 2 ^ 8 * (z1 + 2 ^ 8 * (z2 + 2 ^ 8 * (z3 + 2 ^ 8 * (z4 + 2 ^ 8 * (z5 + 2 ^ 8 * (z6 + 2 ^ 8 * (z7))))))) := by
    rw [v1_nt d g 8 64 (by decide) (by decide) (by decide) (by decide), dw_nt d z0 z1 z2 z3 z4 z5 z6 z7 b0 b1 b2 b3 b4 b5 b6 b7 h0 h1 h2 h3 h4 h5 h6 h7, dw_and z0 z1 z2 z3 z4 z5 z6 z7 b0 b1 b2 b3 b4 b5 b6 b7]
    rw [show (z0 + 2 ^ 8 * (z1 + 2 ^ 8 * (z2 + 2 ^ 8 * (z3 + 2 ^ 8 * (z4 + 2 ^ 8 * (z5 + 2 ^ 8 * (z6 + 2 ^ 8 * (z7)))))))) * 2 ^ (64 - 64) = (z0 + 2 ^ 8 * (z1 + 2 ^ 8 * (z2 + 2 ^ 8 * (z3 + 2 ^ 8 * (z4 + 2 ^ 8 * (z5 + 2 ^ 8 * (z6 + 2 ^ 8 * (z7)))))))) + 2 ^ 64 * (0) from by clear b0 b1 b2 b3 b4 b5 b6 b7 h0 h1 h2 h3 h4 h5 h6 h7; omega, Nat.add_mul_mod_self_left, Nat.mod_eq_of_lt (lt64 (by omega) (by omega) (by omega) (by omega) (by omega) (by omega) (by omega) (by omega))]
  have v := val_nt (wordF d g 8) 8 z0 z1 z2 z3 z4 z5 z6 z7 b0 b1 b2 b3 b4 b5 b6 b7 v1
  have t0 : (e0F d).toInt = z0 := (c_i2l _).trans h0
  have t1 : (e1F d 8).toInt = _ := (congrArg Int64.toInt (if_pos (by decide))).trans (up_int t0 h1 (by clear v v1 h0 h1 h2 h3 h4 h5 h6 h7 t0; omega) b1)
  have t2 : (e2F d 8).toInt = _ := (congrArg Int64.toInt (if_pos (by decide))).trans (up_int t1 h2 (by clear v v1 h0 h1 h2 h3 h4 h5 h6 h7 t0 t1; omega) b2)
  have t3 : (e3F d 8).toInt = _ := (congrArg Int64.toInt (if_pos (by decide))).trans (up_int t2 h3 (by clear v v1 h0 h1 h2 h3 h4 h5 h6 h7 t0 t1 t2; omega) b3)
  have t4 : (e4F d 8).toInt = _ := (congrArg Int64.toInt (if_pos (by decide))).trans (up_int t3 h4 (by clear v v1 h0 h1 h2 h3 h4 h5 h6 h7 t0 t1 t2 t3; omega) b4)
  have t5 : (e5F d 8).toInt = _ := (congrArg Int64.toInt (if_pos (by decide))).trans (up_int t4 h5 (by clear v v1 h0 h1 h2 h3 h4 h5 h6 h7 t0 t1 t2 t3 t4; omega) b5)
  have t6 : (e6F d 8).toInt = _ := (congrArg Int64.toInt (if_pos (by decide))).trans (up_int t5 h6 (by clear v v1 h0 h1 h2 h3 h4 h5 h6 h7 t0 t1 t2 t3 t4 t5; omega) b6)
  have t7 : (e7F d 8).toInt = _ := (congrArg Int64.toInt (if_pos (by decide))).trans (up_int t6 h7 (by clear v v1 h0 h1 h2 h3 h4 h5 h6 h7 t0 t1 t2 t3 t4 t5 t6; omega) b7)
  apply Int64.toInt_inj.mp
  rw [v, t7]
  clear v v1 h0 h1 h2 h3 h4 h5 h6 h7 b0 b1 b2 b3 b4 b5 b6 b7 t0 t1 t2 t3 t4 t5 t6 t7
  omega
theorem n_cases (o : Int32) : nF o = 1 ∨ nF o = 2 ∨ nF o = 3 ∨ nF o = 4 ∨ nF o = 5 ∨ nF o = 6 ∨ nF o = 7 ∨ nF o = 8 := by
  have h : (o &&& (7 : Int32)).toInt = o.toInt % (2 ^ 3 : Nat) := c_mask o 7 3 (by decide) (by decide)
  have a := c_iadd (o &&& (7 : Int32)) 1
  have r := rng32 ((o &&& (7 : Int32)) + 1)
  rw [show (1 : Int32).toInt = 1 from rfl] at a
  change ((nF o).toInt - _) % _ = 0 at a
  change _ ≤ (nF o).toInt ∧ (nF o).toInt < _ at r
  have q : (nF o).toInt = 1 ∨ (nF o).toInt = 2 ∨ (nF o).toInt = 3 ∨ (nF o).toInt = 4 ∨ (nF o).toInt = 5 ∨ (nF o).toInt = 6 ∨ (nF o).toInt = 7 ∨ (nF o).toInt = 8 := by omega
  rcases q with q | q | q | q | q | q | q | q
  · exact Or.inl (Int32.toInt_inj.mp q)
  · exact Or.inr (Or.inl (Int32.toInt_inj.mp q))
  · exact Or.inr (Or.inr (Or.inl (Int32.toInt_inj.mp q)))
  · exact Or.inr (Or.inr (Or.inr (Or.inl (Int32.toInt_inj.mp q))))
  · exact Or.inr (Or.inr (Or.inr (Or.inr (Or.inl (Int32.toInt_inj.mp q)))))
  · exact Or.inr (Or.inr (Or.inr (Or.inr (Or.inr (Or.inl (Int32.toInt_inj.mp q))))))
  · exact Or.inr (Or.inr (Or.inr (Or.inr (Or.inr (Or.inr (Or.inl (Int32.toInt_inj.mp q)))))))
  · exact Or.inr (Or.inr (Or.inr (Or.inr (Or.inr (Or.inr (Or.inr (Int32.toInt_inj.mp q)))))))
theorem lawF_one (d g : Int64) (o : Int32) : lawF d g o = 1 := by
  refine if_pos ?_
  rcases n_cases o with q | q | q | q | q | q | q | q <;> rw [q]
  · exact eq_1 d g
  · exact eq_2 d g
  · exact eq_3 d g
  · exact eq_4 d g
  · exact eq_5 d g
  · exact eq_6 d g
  · exact eq_7 d g
  · exact eq_8 d g
theorem d_method_2_0 : decode method_2_code 0 = .ok (.lload_n 0, 1) := by decide +kernel
theorem d_method_2_1 : decode method_2_code 1 = .ok (.bipush 8, 2) := by decide +kernel
theorem d_method_2_3 : decode method_2_code 3 = .ok (.iload_n 2, 1) := by decide +kernel
theorem d_method_2_4 : decode method_2_code 4 = .ok (.imul, 1) := by decide +kernel
theorem d_method_2_5 : decode method_2_code 5 = .ok (.lushr, 1) := by decide +kernel
theorem d_method_2_6 : decode method_2_code 6 = .ok (.ldc2_w 7, 3) := by decide +kernel
theorem d_method_2_9 : decode method_2_code 9 = .ok (.land, 1) := by decide +kernel
theorem d_method_2_10 : decode method_2_code 10 = .ok (.l2i, 1) := by decide +kernel
theorem d_method_2_11 : decode method_2_code 11 = .ok (.bipush 10, 2) := by decide +kernel
theorem d_method_2_13 : decode method_2_code 13 = .ok (.irem, 1) := by decide +kernel
theorem d_method_2_14 : decode method_2_code 14 = .ok (.ireturn, 1) := by decide +kernel
theorem pn_0 : plainName "com/example/tandem_scroll/tandemscroll/formats/BytesValuePinLaw" = true := by first | (simp [plainName, overriddenIn]; done) | decide +kernel
theorem ef_dig (m : MethodId) (xd : Int64) (xk : Int32) : entryFrame m #[(.long xd), (.int xk)] 3 = mkF m 0 #[.val (.long xd), .second, .val (.int xk)] [] := by first | (simp [entryFrame, mkF, argsToLocals, Value.category]; done) | rfl
def Q_dig (Z : State) (xd : Int64) (xk : Int32) (h0 : Heap) (n0 : Nat) (v : Option Value) (h : Heap) (L : List Loc) : Prop := v = some (.int (digF xd xk)) ∧ Fr n0 L ∧ h = h0
set_option maxRecDepth 65536 in
set_option maxHeartbeats 40000000 in
theorem rm_dig (l : Launch) (Z : State) (a0 : Array Value) (hw : ∀ d ∈ tables_1, d.before a0 Z = true) (ws : List Jvm.Cond) (xd : Int64) (xk : Int32) (h0 : Heap) (n0 : Nat) (Z0 : n0 ≤ h0.size) :
    MetFree l (⟨"com/example/tandem_scroll/tandemscroll/formats/BytesValuePinLaw", "digit", "(JI)I"⟩ : MethodName) (head1 (Jvm.Cond.code (⟨"com/example/tandem_scroll/tandemscroll/formats/BytesValuePinLaw", "digit", "(JI)I"⟩ : MethodName) method_2_code 3 (some .int) :: ws) ({ frames := 0, cells := 0, slots := 0, locals := 0 } : Room)) (fun a U => a = #[(.long xd), (.int xk)] ∧ Z.Warmed39 U.vm ∧ U.heap = h0) (fun _ _ _ _ _ => True) (fun _ U o U' => ∃ v L, o = .returned v ∧ Q_dig Z xd xk h0 n0 v U'.heap L ∧ FrameEnd U o U' L ({ frames := 0, cells := 0, slots := 0, locals := 0 } : Room).cells ({ frames := 0, cells := 0, slots := 0, locals := 0 } : Room).slots) := by
  refine MetFree.of_bodySF (plainFor_of_name pn_0) hisR ?_
  intro p e s m args below meth c s₁ Bd hml0 hP hK
  obtain ⟨rfl, hZ, hh⟩ := hP
  have hx := Bd.exec
  have hby := Bd.bytes
  have hml : c.maxLocals = 3 := hml0
  have hown : s.vm.findClass "com/example/tandem_scroll/tandemscroll/formats/BytesValuePinLaw" = some m.cls := findClass_of_methodNamed Bd.named
  have X0 : Stand p l e ({ frames := 0, cells := 0, slots := 0, locals := 0 } : Room) s m #[(.long xd), (.int xk)] below meth c s₁ [] 0 0 := Stand.of_body Bd
  have e0 : s₁.heap = h0 := by rw [← hh, Bd.state]; rfl
  have N0 := Fr.nil n0
  have pre0 : ∀ t, Steps p.tables e below (s₁.setTop (mkF m 0 #[.val (.long xd), .second, .val (.int xk)] [])) t → Steps p.tables e below (s₁.setTop (entryFrame m #[(.long xd), (.int xk)] 3)) t := fun t k => castTop (ef_dig m xd xk) k
  obtain ⟨fs, hr, hrun, hended, hW, hsame⟩ := X0.leave (v := some (.int (digF xd xk))) (fun h => by rw [Bd.returns] at h; cases h)
  refine ⟨_, _, pre0 _ ?_, hrun, hended, _, _, rfl, ?_, ⟨_, rfl⟩, hW, hsame.mono (by decide) (by decide)⟩
  · show Steps p.tables e below (s₁.setTop (mkF m 0 #[.val (.long xd), .second, .val (.int xk)] [])) _
    refine XS.lloadN X0.here hx rfl (hb hby d_method_2_0) rfl ?_
    show Steps p.tables e below (s₁.setTop (mkF m 1 #[.val (.long xd), .second, .val (.int xk)] [(.long xd)])) _
    refine XS.bipush X0.here hx rfl (hb hby d_method_2_1) ?_
    show Steps p.tables e below (s₁.setTop (mkF m 3 #[.val (.long xd), .second, .val (.int xk)] [(.int (8 : Int32)), (.long xd)])) _
    refine XS.iloadN X0.here hx rfl (hb hby d_method_2_3) rfl ?_
    show Steps p.tables e below (s₁.setTop (mkF m 4 #[.val (.long xd), .second, .val (.int xk)] [(.int xk), (.int (8 : Int32)), (.long xd)])) _
    refine XS.imul X0.here hx rfl (hb hby d_method_2_4) rfl ?_
    show Steps p.tables e below (s₁.setTop (mkF m 5 #[.val (.long xd), .second, .val (.int xk)] [(.int ((8 : Int32) * xk)), (.long xd)])) _
    refine XS.lushr X0.here hx rfl (hb hby d_method_2_5) rfl ?_
    show Steps p.tables e below (s₁.setTop (mkF m 6 #[.val (.long xd), .second, .val (.int xk)] [(.long ((xd.toUInt64 >>> (((8 : Int32) * xk) &&& 0x3f).toInt64.toUInt64).toInt64))])) _
    refine X0.ldc2Long hx hown (mvT hZ (hw _ (List.mem_of_getElem? (i := 4) rfl))) (g := (mkF m 6 #[.val (.long xd), .second, .val (.int xk)] [(.long ((xd.toUInt64 >>> (((8 : Int32) * xk) &&& 0x3f).toInt64.toUInt64).toInt64))])) rfl (hb hby d_method_2_6) _ ?_
    show Steps p.tables e below (s₁.setTop (mkF m 9 #[.val (.long xd), .second, .val (.int xk)] [(.long (255 : Int64)), (.long ((xd.toUInt64 >>> (((8 : Int32) * xk) &&& 0x3f).toInt64.toUInt64).toInt64))])) _
    refine XS.land X0.here hx rfl (hb hby d_method_2_9) rfl ?_
    show Steps p.tables e below (s₁.setTop (mkF m 10 #[.val (.long xd), .second, .val (.int xk)] [(.long (((xd.toUInt64 >>> (((8 : Int32) * xk) &&& 0x3f).toInt64.toUInt64).toInt64) &&& (255 : Int64)))])) _
    refine XS.l2i X0.here hx rfl (hb hby d_method_2_10) rfl ?_
    show Steps p.tables e below (s₁.setTop (mkF m 11 #[.val (.long xd), .second, .val (.int xk)] [(.int (wF xd xk))])) _
    refine XS.bipush X0.here hx rfl (hb hby d_method_2_11) ?_
    show Steps p.tables e below (s₁.setTop (mkF m 13 #[.val (.long xd), .second, .val (.int xk)] [(.int (10 : Int32)), (.int (wF xd xk))])) _
    refine XS.irem X0.here hx rfl (hb hby d_method_2_13) rfl (by decide) ?_
    show Steps p.tables e below (s₁.setTop (mkF m 14 #[.val (.long xd), .second, .val (.int xk)] [(.int (digF xd xk))])) _
    exact retI X0 hx Bd.returns (hb hby d_method_2_14) hr
  · show Q_dig Z xd xk h0 n0 _ s₁.heap _
    exact ⟨rfl, N0, e0⟩
theorem d_prog_20_method_7_0 : decode prog_20_method_7_code 0 = .ok (.lload_n 0, 1) := by decide +kernel
theorem d_prog_20_method_7_1 : decode prog_20_method_7_code 1 = .ok (.ldc2_w 43, 3) := by decide +kernel
theorem d_prog_20_method_7_4 : decode prog_20_method_7_code 4 = .ok (.land, 1) := by decide +kernel
theorem d_prog_20_method_7_5 : decode prog_20_method_7_code 5 = .ok (.bipush 8, 2) := by decide +kernel
theorem d_prog_20_method_7_7 : decode prog_20_method_7_code 7 = .ok (.bipush 8, 2) := by decide +kernel
theorem d_prog_20_method_7_9 : decode prog_20_method_7_code 9 = .ok (.iload_n 2, 1) := by decide +kernel
theorem d_prog_20_method_7_10 : decode prog_20_method_7_code 10 = .ok (.isub, 1) := by decide +kernel
theorem d_prog_20_method_7_11 : decode prog_20_method_7_code 11 = .ok (.imul, 1) := by decide +kernel
theorem d_prog_20_method_7_12 : decode prog_20_method_7_code 12 = .ok (.lshl, 1) := by decide +kernel
theorem d_prog_20_method_7_13 : decode prog_20_method_7_code 13 = .ok (.lstore_n 3, 1) := by decide +kernel
theorem d_prog_20_method_7_14 : decode prog_20_method_7_code 14 = .ok (.lload_n 3, 1) := by decide +kernel
theorem d_prog_20_method_7_15 : decode prog_20_method_7_code 15 = .ok (.ldc2_w 45, 3) := by decide +kernel
theorem d_prog_20_method_7_18 : decode prog_20_method_7_code 18 = .ok (.lmul, 1) := by decide +kernel
theorem d_prog_20_method_7_19 : decode prog_20_method_7_code 19 = .ok (.bipush 8, 2) := by decide +kernel
theorem d_prog_20_method_7_21 : decode prog_20_method_7_code 21 = .ok (.lushr, 1) := by decide +kernel
theorem d_prog_20_method_7_22 : decode prog_20_method_7_code 22 = .ok (.ldc2_w 47, 3) := by decide +kernel
theorem d_prog_20_method_7_25 : decode prog_20_method_7_code 25 = .ok (.land, 1) := by decide +kernel
theorem d_prog_20_method_7_26 : decode prog_20_method_7_code 26 = .ok (.lstore 5, 2) := by decide +kernel
theorem d_prog_20_method_7_28 : decode prog_20_method_7_code 28 = .ok (.lload 5, 2) := by decide +kernel
theorem d_prog_20_method_7_30 : decode prog_20_method_7_code 30 = .ok (.ldc2_w 49, 3) := by decide +kernel
theorem d_prog_20_method_7_33 : decode prog_20_method_7_code 33 = .ok (.lmul, 1) := by decide +kernel
theorem d_prog_20_method_7_34 : decode prog_20_method_7_code 34 = .ok (.bipush 16, 2) := by decide +kernel
theorem d_prog_20_method_7_36 : decode prog_20_method_7_code 36 = .ok (.lushr, 1) := by decide +kernel
theorem d_prog_20_method_7_37 : decode prog_20_method_7_code 37 = .ok (.ldc2_w 51, 3) := by decide +kernel
theorem d_prog_20_method_7_40 : decode prog_20_method_7_code 40 = .ok (.land, 1) := by decide +kernel
theorem d_prog_20_method_7_41 : decode prog_20_method_7_code 41 = .ok (.lstore 7, 2) := by decide +kernel
theorem d_prog_20_method_7_43 : decode prog_20_method_7_code 43 = .ok (.lload 7, 2) := by decide +kernel
theorem d_prog_20_method_7_45 : decode prog_20_method_7_code 45 = .ok (.ldc2_w 53, 3) := by decide +kernel
theorem d_prog_20_method_7_48 : decode prog_20_method_7_code 48 = .ok (.lmul, 1) := by decide +kernel
theorem d_prog_20_method_7_49 : decode prog_20_method_7_code 49 = .ok (.bipush 32, 2) := by decide +kernel
theorem d_prog_20_method_7_51 : decode prog_20_method_7_code 51 = .ok (.lushr, 1) := by decide +kernel
theorem d_prog_20_method_7_52 : decode prog_20_method_7_code 52 = .ok (.lreturn, 1) := by decide +kernel
theorem pn_1 : plainName "com/example/tandem_scroll/tandemscroll/formats/Bytes" = true := by first | (simp [plainName, overriddenIn]; done) | decide +kernel
theorem ef_val (m : MethodId) (xw : Int64) (xn : Int32) : entryFrame m #[(.long xw), (.int xn)] 9 = mkF m 0 #[.val (.long xw), .second, .val (.int xn), .unset, .unset, .unset, .unset, .unset, .unset] [] := by first | (simp [entryFrame, mkF, argsToLocals, Value.category]; done) | rfl
def Q_val (Z : State) (xw : Int64) (xn : Int32) (h0 : Heap) (n0 : Nat) (v : Option Value) (h : Heap) (L : List Loc) : Prop := v = some (.long (valF xw xn)) ∧ Fr n0 L ∧ h = h0
set_option maxRecDepth 65536 in
set_option maxHeartbeats 40000000 in
theorem rm_val (l : Launch) (Z : State) (a0 : Array Value) (hw : ∀ d ∈ tables_1, d.before a0 Z = true) (ws : List Jvm.Cond) (xw : Int64) (xn : Int32) (h0 : Heap) (n0 : Nat) (Z0 : n0 ≤ h0.size) :
    MetFree l (⟨"com/example/tandem_scroll/tandemscroll/formats/Bytes", "value", "(JI)J"⟩ : MethodName) (head1 (Jvm.Cond.code (⟨"com/example/tandem_scroll/tandemscroll/formats/Bytes", "value", "(JI)J"⟩ : MethodName) prog_20_method_7_code 9 (some .long) :: ws) ({ frames := 0, cells := 0, slots := 0, locals := 0 } : Room)) (fun a U => a = #[(.long xw), (.int xn)] ∧ Z.Warmed39 U.vm ∧ U.heap = h0) (fun _ _ _ _ _ => True) (fun _ U o U' => ∃ v L, o = .returned v ∧ Q_val Z xw xn h0 n0 v U'.heap L ∧ FrameEnd U o U' L ({ frames := 0, cells := 0, slots := 0, locals := 0 } : Room).cells ({ frames := 0, cells := 0, slots := 0, locals := 0 } : Room).slots) := by
  refine MetFree.of_bodySF (plainFor_of_name pn_1) hisR ?_
  intro p e s m args below meth c s₁ Bd hml0 hP hK
  obtain ⟨rfl, hZ, hh⟩ := hP
  have hx := Bd.exec
  have hby := Bd.bytes
  have hml : c.maxLocals = 9 := hml0
  have hown : s.vm.findClass "com/example/tandem_scroll/tandemscroll/formats/Bytes" = some m.cls := findClass_of_methodNamed Bd.named
  have X0 : Stand p l e ({ frames := 0, cells := 0, slots := 0, locals := 0 } : Room) s m #[(.long xw), (.int xn)] below meth c s₁ [] 0 0 := Stand.of_body Bd
  have e0 : s₁.heap = h0 := by rw [← hh, Bd.state]; rfl
  have N0 := Fr.nil n0
  have pre0 : ∀ t, Steps p.tables e below (s₁.setTop (mkF m 0 #[.val (.long xw), .second, .val (.int xn), .unset, .unset, .unset, .unset, .unset, .unset] [])) t → Steps p.tables e below (s₁.setTop (entryFrame m #[(.long xw), (.int xn)] 9)) t := fun t k => castTop (ef_val m xw xn) k
  obtain ⟨fs, hr, hrun, hended, hW, hsame⟩ := X0.leave (v := some (.long (valF xw xn))) (fun h => by rw [Bd.returns] at h; cases h)
  refine ⟨_, _, pre0 _ ?_, hrun, hended, _, _, rfl, ?_, ⟨_, rfl⟩, hW, hsame.mono (by decide) (by decide)⟩
  · show Steps p.tables e below (s₁.setTop (mkF m 0 #[.val (.long xw), .second, .val (.int xn), .unset, .unset, .unset, .unset, .unset, .unset] [])) _
    refine XS.lloadN X0.here hx rfl (hb hby d_prog_20_method_7_0) rfl ?_
    show Steps p.tables e below (s₁.setTop (mkF m 1 #[.val (.long xw), .second, .val (.int xn), .unset, .unset, .unset, .unset, .unset, .unset] [(.long xw)])) _
    refine X0.ldc2Long hx hown (mvT hZ (hw _ (List.mem_of_getElem? (i := 10) rfl))) (g := (mkF m 1 #[.val (.long xw), .second, .val (.int xn), .unset, .unset, .unset, .unset, .unset, .unset] [(.long xw)])) rfl (hb hby d_prog_20_method_7_1) _ ?_
    show Steps p.tables e below (s₁.setTop (mkF m 4 #[.val (.long xw), .second, .val (.int xn), .unset, .unset, .unset, .unset, .unset, .unset] [(.long (1085102592571150095 : Int64)), (.long xw)])) _
    refine XS.land X0.here hx rfl (hb hby d_prog_20_method_7_4) rfl ?_
    show Steps p.tables e below (s₁.setTop (mkF m 5 #[.val (.long xw), .second, .val (.int xn), .unset, .unset, .unset, .unset, .unset, .unset] [(.long (xw &&& (1085102592571150095 : Int64)))])) _
    refine XS.bipush X0.here hx rfl (hb hby d_prog_20_method_7_5) ?_
    show Steps p.tables e below (s₁.setTop (mkF m 7 #[.val (.long xw), .second, .val (.int xn), .unset, .unset, .unset, .unset, .unset, .unset] [(.int (8 : Int32)), (.long (xw &&& (1085102592571150095 : Int64)))])) _
    refine XS.bipush X0.here hx rfl (hb hby d_prog_20_method_7_7) ?_
    show Steps p.tables e below (s₁.setTop (mkF m 9 #[.val (.long xw), .second, .val (.int xn), .unset, .unset, .unset, .unset, .unset, .unset] [(.int (8 : Int32)), (.int (8 : Int32)), (.long (xw &&& (1085102592571150095 : Int64)))])) _
    refine XS.iloadN X0.here hx rfl (hb hby d_prog_20_method_7_9) rfl ?_
    show Steps p.tables e below (s₁.setTop (mkF m 10 #[.val (.long xw), .second, .val (.int xn), .unset, .unset, .unset, .unset, .unset, .unset] [(.int xn), (.int (8 : Int32)), (.int (8 : Int32)), (.long (xw &&& (1085102592571150095 : Int64)))])) _
    refine XS.isub X0.here hx rfl (hb hby d_prog_20_method_7_10) rfl ?_
    show Steps p.tables e below (s₁.setTop (mkF m 11 #[.val (.long xw), .second, .val (.int xn), .unset, .unset, .unset, .unset, .unset, .unset] [(.int ((8 : Int32) - xn)), (.int (8 : Int32)), (.long (xw &&& (1085102592571150095 : Int64)))])) _
    refine XS.imul X0.here hx rfl (hb hby d_prog_20_method_7_11) rfl ?_
    show Steps p.tables e below (s₁.setTop (mkF m 12 #[.val (.long xw), .second, .val (.int xn), .unset, .unset, .unset, .unset, .unset, .unset] [(.int ((8 : Int32) * ((8 : Int32) - xn))), (.long (xw &&& (1085102592571150095 : Int64)))])) _
    refine XS.lshl X0.here hx rfl (hb hby d_prog_20_method_7_12) rfl ?_
    show Steps p.tables e below (s₁.setTop (mkF m 13 #[.val (.long xw), .second, .val (.int xn), .unset, .unset, .unset, .unset, .unset, .unset] [(.long (v1F xw xn))])) _
    refine XS.lstoreN X0.here hx rfl (hb hby d_prog_20_method_7_13) rfl (l' := #[.val (.long xw), .second, .val (.int xn), .val (.long (v1F xw xn)), .second, .unset, .unset, .unset, .unset]) rfl ?_
    show Steps p.tables e below (s₁.setTop (mkF m 14 #[.val (.long xw), .second, .val (.int xn), .val (.long (v1F xw xn)), .second, .unset, .unset, .unset, .unset] [])) _
    refine XS.lloadN X0.here hx rfl (hb hby d_prog_20_method_7_14) rfl ?_
    show Steps p.tables e below (s₁.setTop (mkF m 15 #[.val (.long xw), .second, .val (.int xn), .val (.long (v1F xw xn)), .second, .unset, .unset, .unset, .unset] [(.long (v1F xw xn))])) _
    refine X0.ldc2Long hx hown (mvT hZ (hw _ (List.mem_of_getElem? (i := 11) rfl))) (g := (mkF m 15 #[.val (.long xw), .second, .val (.int xn), .val (.long (v1F xw xn)), .second, .unset, .unset, .unset, .unset] [(.long (v1F xw xn))])) rfl (hb hby d_prog_20_method_7_15) _ ?_
    show Steps p.tables e below (s₁.setTop (mkF m 18 #[.val (.long xw), .second, .val (.int xn), .val (.long (v1F xw xn)), .second, .unset, .unset, .unset, .unset] [(.long (2561 : Int64)), (.long (v1F xw xn))])) _
    refine XS.lmul X0.here hx rfl (hb hby d_prog_20_method_7_18) rfl ?_
    show Steps p.tables e below (s₁.setTop (mkF m 19 #[.val (.long xw), .second, .val (.int xn), .val (.long (v1F xw xn)), .second, .unset, .unset, .unset, .unset] [(.long ((v1F xw xn) * (2561 : Int64)))])) _
    refine XS.bipush X0.here hx rfl (hb hby d_prog_20_method_7_19) ?_
    show Steps p.tables e below (s₁.setTop (mkF m 21 #[.val (.long xw), .second, .val (.int xn), .val (.long (v1F xw xn)), .second, .unset, .unset, .unset, .unset] [(.int (8 : Int32)), (.long ((v1F xw xn) * (2561 : Int64)))])) _
    refine XS.lushr X0.here hx rfl (hb hby d_prog_20_method_7_21) rfl ?_
    show Steps p.tables e below (s₁.setTop (mkF m 22 #[.val (.long xw), .second, .val (.int xn), .val (.long (v1F xw xn)), .second, .unset, .unset, .unset, .unset] [(.long ((((v1F xw xn) * (2561 : Int64)).toUInt64 >>> ((8 : Int32) &&& 0x3f).toInt64.toUInt64).toInt64))])) _
    refine X0.ldc2Long hx hown (mvT hZ (hw _ (List.mem_of_getElem? (i := 12) rfl))) (g := (mkF m 22 #[.val (.long xw), .second, .val (.int xn), .val (.long (v1F xw xn)), .second, .unset, .unset, .unset, .unset] [(.long ((((v1F xw xn) * (2561 : Int64)).toUInt64 >>> ((8 : Int32) &&& 0x3f).toInt64.toUInt64).toInt64))])) rfl (hb hby d_prog_20_method_7_22) _ ?_
    show Steps p.tables e below (s₁.setTop (mkF m 25 #[.val (.long xw), .second, .val (.int xn), .val (.long (v1F xw xn)), .second, .unset, .unset, .unset, .unset] [(.long (71777214294589695 : Int64)), (.long ((((v1F xw xn) * (2561 : Int64)).toUInt64 >>> ((8 : Int32) &&& 0x3f).toInt64.toUInt64).toInt64))])) _
    refine XS.land X0.here hx rfl (hb hby d_prog_20_method_7_25) rfl ?_
    show Steps p.tables e below (s₁.setTop (mkF m 26 #[.val (.long xw), .second, .val (.int xn), .val (.long (v1F xw xn)), .second, .unset, .unset, .unset, .unset] [(.long (v2F xw xn))])) _
    refine XS.lstore X0.here hx rfl (hb hby d_prog_20_method_7_26) rfl (l' := #[.val (.long xw), .second, .val (.int xn), .val (.long (v1F xw xn)), .second, .val (.long (v2F xw xn)), .second, .unset, .unset]) rfl ?_
    show Steps p.tables e below (s₁.setTop (mkF m 28 #[.val (.long xw), .second, .val (.int xn), .val (.long (v1F xw xn)), .second, .val (.long (v2F xw xn)), .second, .unset, .unset] [])) _
    refine XS.lload X0.here hx rfl (hb hby d_prog_20_method_7_28) rfl ?_
    show Steps p.tables e below (s₁.setTop (mkF m 30 #[.val (.long xw), .second, .val (.int xn), .val (.long (v1F xw xn)), .second, .val (.long (v2F xw xn)), .second, .unset, .unset] [(.long (v2F xw xn))])) _
    refine X0.ldc2Long hx hown (mvT hZ (hw _ (List.mem_of_getElem? (i := 13) rfl))) (g := (mkF m 30 #[.val (.long xw), .second, .val (.int xn), .val (.long (v1F xw xn)), .second, .val (.long (v2F xw xn)), .second, .unset, .unset] [(.long (v2F xw xn))])) rfl (hb hby d_prog_20_method_7_30) _ ?_
    show Steps p.tables e below (s₁.setTop (mkF m 33 #[.val (.long xw), .second, .val (.int xn), .val (.long (v1F xw xn)), .second, .val (.long (v2F xw xn)), .second, .unset, .unset] [(.long (6553601 : Int64)), (.long (v2F xw xn))])) _
    refine XS.lmul X0.here hx rfl (hb hby d_prog_20_method_7_33) rfl ?_
    show Steps p.tables e below (s₁.setTop (mkF m 34 #[.val (.long xw), .second, .val (.int xn), .val (.long (v1F xw xn)), .second, .val (.long (v2F xw xn)), .second, .unset, .unset] [(.long ((v2F xw xn) * (6553601 : Int64)))])) _
    refine XS.bipush X0.here hx rfl (hb hby d_prog_20_method_7_34) ?_
    show Steps p.tables e below (s₁.setTop (mkF m 36 #[.val (.long xw), .second, .val (.int xn), .val (.long (v1F xw xn)), .second, .val (.long (v2F xw xn)), .second, .unset, .unset] [(.int (16 : Int32)), (.long ((v2F xw xn) * (6553601 : Int64)))])) _
    refine XS.lushr X0.here hx rfl (hb hby d_prog_20_method_7_36) rfl ?_
    show Steps p.tables e below (s₁.setTop (mkF m 37 #[.val (.long xw), .second, .val (.int xn), .val (.long (v1F xw xn)), .second, .val (.long (v2F xw xn)), .second, .unset, .unset] [(.long ((((v2F xw xn) * (6553601 : Int64)).toUInt64 >>> ((16 : Int32) &&& 0x3f).toInt64.toUInt64).toInt64))])) _
    refine X0.ldc2Long hx hown (mvT hZ (hw _ (List.mem_of_getElem? (i := 14) rfl))) (g := (mkF m 37 #[.val (.long xw), .second, .val (.int xn), .val (.long (v1F xw xn)), .second, .val (.long (v2F xw xn)), .second, .unset, .unset] [(.long ((((v2F xw xn) * (6553601 : Int64)).toUInt64 >>> ((16 : Int32) &&& 0x3f).toInt64.toUInt64).toInt64))])) rfl (hb hby d_prog_20_method_7_37) _ ?_
    show Steps p.tables e below (s₁.setTop (mkF m 40 #[.val (.long xw), .second, .val (.int xn), .val (.long (v1F xw xn)), .second, .val (.long (v2F xw xn)), .second, .unset, .unset] [(.long (281470681808895 : Int64)), (.long ((((v2F xw xn) * (6553601 : Int64)).toUInt64 >>> ((16 : Int32) &&& 0x3f).toInt64.toUInt64).toInt64))])) _
    refine XS.land X0.here hx rfl (hb hby d_prog_20_method_7_40) rfl ?_
    show Steps p.tables e below (s₁.setTop (mkF m 41 #[.val (.long xw), .second, .val (.int xn), .val (.long (v1F xw xn)), .second, .val (.long (v2F xw xn)), .second, .unset, .unset] [(.long (v3F xw xn))])) _
    refine XS.lstore X0.here hx rfl (hb hby d_prog_20_method_7_41) rfl (l' := #[.val (.long xw), .second, .val (.int xn), .val (.long (v1F xw xn)), .second, .val (.long (v2F xw xn)), .second, .val (.long (v3F xw xn)), .second]) rfl ?_
    show Steps p.tables e below (s₁.setTop (mkF m 43 #[.val (.long xw), .second, .val (.int xn), .val (.long (v1F xw xn)), .second, .val (.long (v2F xw xn)), .second, .val (.long (v3F xw xn)), .second] [])) _
    refine XS.lload X0.here hx rfl (hb hby d_prog_20_method_7_43) rfl ?_
    show Steps p.tables e below (s₁.setTop (mkF m 45 #[.val (.long xw), .second, .val (.int xn), .val (.long (v1F xw xn)), .second, .val (.long (v2F xw xn)), .second, .val (.long (v3F xw xn)), .second] [(.long (v3F xw xn))])) _
    refine X0.ldc2Long hx hown (mvT hZ (hw _ (List.mem_of_getElem? (i := 15) rfl))) (g := (mkF m 45 #[.val (.long xw), .second, .val (.int xn), .val (.long (v1F xw xn)), .second, .val (.long (v2F xw xn)), .second, .val (.long (v3F xw xn)), .second] [(.long (v3F xw xn))])) rfl (hb hby d_prog_20_method_7_45) _ ?_
    show Steps p.tables e below (s₁.setTop (mkF m 48 #[.val (.long xw), .second, .val (.int xn), .val (.long (v1F xw xn)), .second, .val (.long (v2F xw xn)), .second, .val (.long (v3F xw xn)), .second] [(.long (42949672960001 : Int64)), (.long (v3F xw xn))])) _
    refine XS.lmul X0.here hx rfl (hb hby d_prog_20_method_7_48) rfl ?_
    show Steps p.tables e below (s₁.setTop (mkF m 49 #[.val (.long xw), .second, .val (.int xn), .val (.long (v1F xw xn)), .second, .val (.long (v2F xw xn)), .second, .val (.long (v3F xw xn)), .second] [(.long ((v3F xw xn) * (42949672960001 : Int64)))])) _
    refine XS.bipush X0.here hx rfl (hb hby d_prog_20_method_7_49) ?_
    show Steps p.tables e below (s₁.setTop (mkF m 51 #[.val (.long xw), .second, .val (.int xn), .val (.long (v1F xw xn)), .second, .val (.long (v2F xw xn)), .second, .val (.long (v3F xw xn)), .second] [(.int (32 : Int32)), (.long ((v3F xw xn) * (42949672960001 : Int64)))])) _
    refine XS.lushr X0.here hx rfl (hb hby d_prog_20_method_7_51) rfl ?_
    show Steps p.tables e below (s₁.setTop (mkF m 52 #[.val (.long xw), .second, .val (.int xn), .val (.long (v1F xw xn)), .second, .val (.long (v2F xw xn)), .second, .val (.long (v3F xw xn)), .second] [(.long (valF xw xn))])) _
    exact X0.lreturnOut hx Bd.returns (hb hby d_prog_20_method_7_52) hr
  · show Q_val Z xw xn h0 n0 _ s₁.heap _
    exact ⟨rfl, N0, e0⟩
theorem pd_0 : parseMethodDescriptor "(JI)I" = some ⟨[.long, .int], some .int⟩ := by decide +kernel
theorem pd_1 : parseMethodDescriptor "(JI)J" = some ⟨[.long, .int], some .long⟩ := by decide +kernel
theorem ef_law (m : MethodId) (xd : Int64) (xg : Int64) (xo : Int32) : entryFrame m #[(.long xd), (.long xg), (.int xo)] maxLocals = mkF m 0 #[.val (.long xd), .second, .val (.long xg), .second, .val (.int xo), .unset, .unset, .unset, .unset, .unset, .unset, .unset, .unset, .unset, .unset, .unset, .unset, .unset, .unset, .unset, .unset, .unset] [] := by first | (simp [entryFrame, mkF, argsToLocals, Value.category, maxLocals]; done) | rfl
def Q_law (Z : State) (xd : Int64) (xg : Int64) (xo : Int32) (h0 : Heap) (n0 : Nat) (v : Option Value) (h : Heap) (L : List Loc) : Prop := v = some (.int (lawF xd xg xo)) ∧ Fr n0 L ∧ True
set_option maxRecDepth 65536 in
set_option maxHeartbeats 40000000 in
theorem rm_law (l : Launch) (Z : State) (a0 : Array Value) (hw : ∀ d ∈ tables_1, d.before a0 Z = true) (ws : List Jvm.Cond) (xd : Int64) (xg : Int64) (xo : Int32) (h0 : Heap) (n0 : Nat) (Z0 : n0 ≤ h0.size) :
    MetFree l x (head1 (Jvm.Cond.code x code maxLocals ret :: ws) room_1) (fun a U => a = #[(.long xd), (.long xg), (.int xo)] ∧ Z.Warmed39 U.vm ∧ U.heap = h0) (fun _ _ _ _ _ => True) (fun _ U o U' => ∃ v L, o = .returned v ∧ Q_law Z xd xg xo h0 n0 v U'.heap L ∧ FrameEnd U o U' L room_1.cells room_1.slots) := by
  refine MetFree.of_bodySF (plainFor_of_name pn_0) hisR ?_
  intro p e s m args below meth c s₁ Bd hml0 hP hK
  obtain ⟨rfl, hZ, hh⟩ := hP
  have hx := Bd.exec
  have hby := Bd.bytes
  have hml : c.maxLocals = 22 := hml0
  have hown : s.vm.findClass "com/example/tandem_scroll/tandemscroll/formats/BytesValuePinLaw" = some m.cls := findClass_of_methodNamed Bd.named
  have X0 : Stand p l e room_1 s m #[(.long xd), (.long xg), (.int xo)] below meth c s₁ [] 0 0 := Stand.of_body Bd
  have e0 : s₁.heap = h0 := by rw [← hh, Bd.state]; rfl
  have N0 := Fr.nil n0
  have pre0 : ∀ t, Steps p.tables e below (s₁.setTop (mkF m 0 #[.val (.long xd), .second, .val (.long xg), .second, .val (.int xo), .unset, .unset, .unset, .unset, .unset, .unset, .unset, .unset, .unset, .unset, .unset, .unset, .unset, .unset, .unset, .unset, .unset] [])) t → Steps p.tables e below (s₁.setTop (entryFrame m #[(.long xd), (.long xg), (.int xo)] maxLocals)) t := fun t k => castTop (ef_law m xd xg xo) k
  obtain ⟨_, _, ⟨T1, L1, k1, n1⟩, -, X1, ⟨Lc1, hQ1, l1, y1, z1⟩, st1⟩ := Jvm.LawKit.callS X0 hx (y := (⟨"com/example/tandem_scroll/tandemscroll/formats/BytesValuePinLaw", "digit", "(JI)I"⟩ : MethodName)) hown (mvT hZ (hw _ (List.mem_of_getElem? (i := 0) rfl))) (mvT hZ (hw _ (List.mem_of_getElem? (i := 1) rfl))) (mvT hZ (hw _ (List.mem_of_getElem? (i := 2) rfl))) (mvT hZ (hw _ (List.mem_of_getElem? (i := 3) rfl))) (by decide) (backOf (W := 0) (rm_dig l Z a0 hw [] xd (0 : Int32) h0 n0 Z0) hZ (hw _ (List.mem_of_getElem? (i := 3) rfl)) (hw _ (List.mem_of_getElem? (i := 2) rfl)) (by decide) (by decide)) (g := (mkF m 11 #[.val (.long xd), .second, .val (.long xg), .second, .val (.int xo), .val (.int (nF xo)), .unset, .unset, .unset, .unset, .unset, .unset, .unset, .unset, .unset, .unset, .unset, .unset, .unset, .unset, .unset, .unset] [(.int (0 : Int32)), (.long xd)])) rfl (by rw [hml]; rfl) (argsL := [(.long xd), (.int (0 : Int32))]) (rest := []) (lenOf pd_0 rfl) rfl (by show 2 * 0 + _ ≤ _; exact Nat.le_of_eq rfl) (hb hby at_11) (fun _ _ => ⟨rfl, e0, (by decide : 0 + 0 ≤ _), (by decide : 0 + 0 ≤ _)⟩)
  dsimp only [Pt.U, Pt.locs, Pt.cells, Pt.slots] at X1 l1 y1 z1 st1 hQ1
  subst l1 y1 z1
  obtain ⟨rfl, N1q, e1⟩ := hQ1
  have N1 := Fr.app N0 N1q
  obtain ⟨_, _, ⟨T2, L2, k2, n2⟩, -, X2, ⟨Lc2, hQ2, l2, y2, z2⟩, st2⟩ := Jvm.LawKit.callS X1 hx (y := (⟨"com/example/tandem_scroll/tandemscroll/formats/BytesValuePinLaw", "digit", "(JI)I"⟩ : MethodName)) hown (mvT hZ (hw _ (List.mem_of_getElem? (i := 0) rfl))) (mvT hZ (hw _ (List.mem_of_getElem? (i := 1) rfl))) (mvT hZ (hw _ (List.mem_of_getElem? (i := 2) rfl))) (mvT hZ (hw _ (List.mem_of_getElem? (i := 3) rfl))) (by decide) (backOf (W := 0) (rm_dig l Z a0 hw [] xd (1 : Int32) h0 n0 Z0) hZ (hw _ (List.mem_of_getElem? (i := 3) rfl)) (hw _ (List.mem_of_getElem? (i := 2) rfl)) (by decide) (by decide)) (g := (mkF m 18 #[.val (.long xd), .second, .val (.long xg), .second, .val (.int xo), .val (.int (nF xo)), .val (.int (digF xd (0 : Int32))), .unset, .unset, .unset, .unset, .unset, .unset, .unset, .unset, .unset, .unset, .unset, .unset, .unset, .unset, .unset] [(.int (1 : Int32)), (.long xd)])) rfl (by rw [hml]; rfl) (argsL := [(.long xd), (.int (1 : Int32))]) (rest := []) (lenOf pd_0 rfl) rfl (by show 2 * 0 + _ ≤ _; exact Nat.le_of_eq rfl) (hb hby at_18) (fun _ _ => ⟨rfl, e1, (by decide : 0 + 0 ≤ _), (by decide : 0 + 0 ≤ _)⟩)
  dsimp only [Pt.U, Pt.locs, Pt.cells, Pt.slots] at X2 l2 y2 z2 st2 hQ2
  subst l2 y2 z2
  obtain ⟨rfl, N2q, e2⟩ := hQ2
  have N2 := Fr.app N1 N2q
  obtain ⟨_, _, ⟨T3, L3, k3, n3⟩, -, X3, ⟨Lc3, hQ3, l3, y3, z3⟩, st3⟩ := Jvm.LawKit.callS X2 hx (y := (⟨"com/example/tandem_scroll/tandemscroll/formats/BytesValuePinLaw", "digit", "(JI)I"⟩ : MethodName)) hown (mvT hZ (hw _ (List.mem_of_getElem? (i := 0) rfl))) (mvT hZ (hw _ (List.mem_of_getElem? (i := 1) rfl))) (mvT hZ (hw _ (List.mem_of_getElem? (i := 2) rfl))) (mvT hZ (hw _ (List.mem_of_getElem? (i := 3) rfl))) (by decide) (backOf (W := 0) (rm_dig l Z a0 hw [] xd (2 : Int32) h0 n0 Z0) hZ (hw _ (List.mem_of_getElem? (i := 3) rfl)) (hw _ (List.mem_of_getElem? (i := 2) rfl)) (by decide) (by decide)) (g := (mkF m 25 #[.val (.long xd), .second, .val (.long xg), .second, .val (.int xo), .val (.int (nF xo)), .val (.int (digF xd (0 : Int32))), .val (.int (digF xd (1 : Int32))), .unset, .unset, .unset, .unset, .unset, .unset, .unset, .unset, .unset, .unset, .unset, .unset, .unset, .unset] [(.int (2 : Int32)), (.long xd)])) rfl (by rw [hml]; rfl) (argsL := [(.long xd), (.int (2 : Int32))]) (rest := []) (lenOf pd_0 rfl) rfl (by show 2 * 0 + _ ≤ _; exact Nat.le_of_eq rfl) (hb hby at_25) (fun _ _ => ⟨rfl, e2, (by decide : 0 + 0 ≤ _), (by decide : 0 + 0 ≤ _)⟩)
  dsimp only [Pt.U, Pt.locs, Pt.cells, Pt.slots] at X3 l3 y3 z3 st3 hQ3
  subst l3 y3 z3
  obtain ⟨rfl, N3q, e3⟩ := hQ3
  have N3 := Fr.app N2 N3q
  obtain ⟨_, _, ⟨T4, L4, k4, n4⟩, -, X4, ⟨Lc4, hQ4, l4, y4, z4⟩, st4⟩ := Jvm.LawKit.callS X3 hx (y := (⟨"com/example/tandem_scroll/tandemscroll/formats/BytesValuePinLaw", "digit", "(JI)I"⟩ : MethodName)) hown (mvT hZ (hw _ (List.mem_of_getElem? (i := 0) rfl))) (mvT hZ (hw _ (List.mem_of_getElem? (i := 1) rfl))) (mvT hZ (hw _ (List.mem_of_getElem? (i := 2) rfl))) (mvT hZ (hw _ (List.mem_of_getElem? (i := 3) rfl))) (by decide) (backOf (W := 0) (rm_dig l Z a0 hw [] xd (3 : Int32) h0 n0 Z0) hZ (hw _ (List.mem_of_getElem? (i := 3) rfl)) (hw _ (List.mem_of_getElem? (i := 2) rfl)) (by decide) (by decide)) (g := (mkF m 32 #[.val (.long xd), .second, .val (.long xg), .second, .val (.int xo), .val (.int (nF xo)), .val (.int (digF xd (0 : Int32))), .val (.int (digF xd (1 : Int32))), .val (.int (digF xd (2 : Int32))), .unset, .unset, .unset, .unset, .unset, .unset, .unset, .unset, .unset, .unset, .unset, .unset, .unset] [(.int (3 : Int32)), (.long xd)])) rfl (by rw [hml]; rfl) (argsL := [(.long xd), (.int (3 : Int32))]) (rest := []) (lenOf pd_0 rfl) rfl (by show 2 * 0 + _ ≤ _; exact Nat.le_of_eq rfl) (hb hby at_32) (fun _ _ => ⟨rfl, e3, (by decide : 0 + 0 ≤ _), (by decide : 0 + 0 ≤ _)⟩)
  dsimp only [Pt.U, Pt.locs, Pt.cells, Pt.slots] at X4 l4 y4 z4 st4 hQ4
  subst l4 y4 z4
  obtain ⟨rfl, N4q, e4⟩ := hQ4
  have N4 := Fr.app N3 N4q
  obtain ⟨_, _, ⟨T5, L5, k5, n5⟩, -, X5, ⟨Lc5, hQ5, l5, y5, z5⟩, st5⟩ := Jvm.LawKit.callS X4 hx (y := (⟨"com/example/tandem_scroll/tandemscroll/formats/BytesValuePinLaw", "digit", "(JI)I"⟩ : MethodName)) hown (mvT hZ (hw _ (List.mem_of_getElem? (i := 0) rfl))) (mvT hZ (hw _ (List.mem_of_getElem? (i := 1) rfl))) (mvT hZ (hw _ (List.mem_of_getElem? (i := 2) rfl))) (mvT hZ (hw _ (List.mem_of_getElem? (i := 3) rfl))) (by decide) (backOf (W := 0) (rm_dig l Z a0 hw [] xd (4 : Int32) h0 n0 Z0) hZ (hw _ (List.mem_of_getElem? (i := 3) rfl)) (hw _ (List.mem_of_getElem? (i := 2) rfl)) (by decide) (by decide)) (g := (mkF m 39 #[.val (.long xd), .second, .val (.long xg), .second, .val (.int xo), .val (.int (nF xo)), .val (.int (digF xd (0 : Int32))), .val (.int (digF xd (1 : Int32))), .val (.int (digF xd (2 : Int32))), .val (.int (digF xd (3 : Int32))), .unset, .unset, .unset, .unset, .unset, .unset, .unset, .unset, .unset, .unset, .unset, .unset] [(.int (4 : Int32)), (.long xd)])) rfl (by rw [hml]; rfl) (argsL := [(.long xd), (.int (4 : Int32))]) (rest := []) (lenOf pd_0 rfl) rfl (by show 2 * 0 + _ ≤ _; exact Nat.le_of_eq rfl) (hb hby at_39) (fun _ _ => ⟨rfl, e4, (by decide : 0 + 0 ≤ _), (by decide : 0 + 0 ≤ _)⟩)
  dsimp only [Pt.U, Pt.locs, Pt.cells, Pt.slots] at X5 l5 y5 z5 st5 hQ5
  subst l5 y5 z5
  obtain ⟨rfl, N5q, e5⟩ := hQ5
  have N5 := Fr.app N4 N5q
  obtain ⟨_, _, ⟨T6, L6, k6, n6⟩, -, X6, ⟨Lc6, hQ6, l6, y6, z6⟩, st6⟩ := Jvm.LawKit.callS X5 hx (y := (⟨"com/example/tandem_scroll/tandemscroll/formats/BytesValuePinLaw", "digit", "(JI)I"⟩ : MethodName)) hown (mvT hZ (hw _ (List.mem_of_getElem? (i := 0) rfl))) (mvT hZ (hw _ (List.mem_of_getElem? (i := 1) rfl))) (mvT hZ (hw _ (List.mem_of_getElem? (i := 2) rfl))) (mvT hZ (hw _ (List.mem_of_getElem? (i := 3) rfl))) (by decide) (backOf (W := 0) (rm_dig l Z a0 hw [] xd (5 : Int32) h0 n0 Z0) hZ (hw _ (List.mem_of_getElem? (i := 3) rfl)) (hw _ (List.mem_of_getElem? (i := 2) rfl)) (by decide) (by decide)) (g := (mkF m 46 #[.val (.long xd), .second, .val (.long xg), .second, .val (.int xo), .val (.int (nF xo)), .val (.int (digF xd (0 : Int32))), .val (.int (digF xd (1 : Int32))), .val (.int (digF xd (2 : Int32))), .val (.int (digF xd (3 : Int32))), .val (.int (digF xd (4 : Int32))), .unset, .unset, .unset, .unset, .unset, .unset, .unset, .unset, .unset, .unset, .unset] [(.int (5 : Int32)), (.long xd)])) rfl (by rw [hml]; rfl) (argsL := [(.long xd), (.int (5 : Int32))]) (rest := []) (lenOf pd_0 rfl) rfl (by show 2 * 0 + _ ≤ _; exact Nat.le_of_eq rfl) (hb hby at_46) (fun _ _ => ⟨rfl, e5, (by decide : 0 + 0 ≤ _), (by decide : 0 + 0 ≤ _)⟩)
  dsimp only [Pt.U, Pt.locs, Pt.cells, Pt.slots] at X6 l6 y6 z6 st6 hQ6
  subst l6 y6 z6
  obtain ⟨rfl, N6q, e6⟩ := hQ6
  have N6 := Fr.app N5 N6q
  obtain ⟨_, _, ⟨T7, L7, k7, n7⟩, -, X7, ⟨Lc7, hQ7, l7, y7, z7⟩, st7⟩ := Jvm.LawKit.callS X6 hx (y := (⟨"com/example/tandem_scroll/tandemscroll/formats/BytesValuePinLaw", "digit", "(JI)I"⟩ : MethodName)) hown (mvT hZ (hw _ (List.mem_of_getElem? (i := 0) rfl))) (mvT hZ (hw _ (List.mem_of_getElem? (i := 1) rfl))) (mvT hZ (hw _ (List.mem_of_getElem? (i := 2) rfl))) (mvT hZ (hw _ (List.mem_of_getElem? (i := 3) rfl))) (by decide) (backOf (W := 0) (rm_dig l Z a0 hw [] xd (6 : Int32) h0 n0 Z0) hZ (hw _ (List.mem_of_getElem? (i := 3) rfl)) (hw _ (List.mem_of_getElem? (i := 2) rfl)) (by decide) (by decide)) (g := (mkF m 54 #[.val (.long xd), .second, .val (.long xg), .second, .val (.int xo), .val (.int (nF xo)), .val (.int (digF xd (0 : Int32))), .val (.int (digF xd (1 : Int32))), .val (.int (digF xd (2 : Int32))), .val (.int (digF xd (3 : Int32))), .val (.int (digF xd (4 : Int32))), .val (.int (digF xd (5 : Int32))), .unset, .unset, .unset, .unset, .unset, .unset, .unset, .unset, .unset, .unset] [(.int (6 : Int32)), (.long xd)])) rfl (by rw [hml]; rfl) (argsL := [(.long xd), (.int (6 : Int32))]) (rest := []) (lenOf pd_0 rfl) rfl (by show 2 * 0 + _ ≤ _; exact Nat.le_of_eq rfl) (hb hby at_54) (fun _ _ => ⟨rfl, e6, (by decide : 0 + 0 ≤ _), (by decide : 0 + 0 ≤ _)⟩)
  dsimp only [Pt.U, Pt.locs, Pt.cells, Pt.slots] at X7 l7 y7 z7 st7 hQ7
  subst l7 y7 z7
  obtain ⟨rfl, N7q, e7⟩ := hQ7
  have N7 := Fr.app N6 N7q
  obtain ⟨_, _, ⟨T8, L8, k8, n8⟩, -, X8, ⟨Lc8, hQ8, l8, y8, z8⟩, st8⟩ := Jvm.LawKit.callS X7 hx (y := (⟨"com/example/tandem_scroll/tandemscroll/formats/BytesValuePinLaw", "digit", "(JI)I"⟩ : MethodName)) hown (mvT hZ (hw _ (List.mem_of_getElem? (i := 0) rfl))) (mvT hZ (hw _ (List.mem_of_getElem? (i := 1) rfl))) (mvT hZ (hw _ (List.mem_of_getElem? (i := 2) rfl))) (mvT hZ (hw _ (List.mem_of_getElem? (i := 3) rfl))) (by decide) (backOf (W := 0) (rm_dig l Z a0 hw [] xd (7 : Int32) h0 n0 Z0) hZ (hw _ (List.mem_of_getElem? (i := 3) rfl)) (hw _ (List.mem_of_getElem? (i := 2) rfl)) (by decide) (by decide)) (g := (mkF m 62 #[.val (.long xd), .second, .val (.long xg), .second, .val (.int xo), .val (.int (nF xo)), .val (.int (digF xd (0 : Int32))), .val (.int (digF xd (1 : Int32))), .val (.int (digF xd (2 : Int32))), .val (.int (digF xd (3 : Int32))), .val (.int (digF xd (4 : Int32))), .val (.int (digF xd (5 : Int32))), .val (.int (digF xd (6 : Int32))), .unset, .unset, .unset, .unset, .unset, .unset, .unset, .unset, .unset] [(.int (7 : Int32)), (.long xd)])) rfl (by rw [hml]; rfl) (argsL := [(.long xd), (.int (7 : Int32))]) (rest := []) (lenOf pd_0 rfl) rfl (by show 2 * 0 + _ ≤ _; exact Nat.le_of_eq rfl) (hb hby at_62) (fun _ _ => ⟨rfl, e7, (by decide : 0 + 0 ≤ _), (by decide : 0 + 0 ≤ _)⟩)
  dsimp only [Pt.U, Pt.locs, Pt.cells, Pt.slots] at X8 l8 y8 z8 st8 hQ8
  subst l8 y8 z8
  obtain ⟨rfl, N8q, e8⟩ := hQ8
  have N8 := Fr.app N7 N8q
  obtain ⟨_, _, ⟨T9, L9, k9, n9⟩, -, X9, ⟨Lc9, hQ9, l9, y9, z9⟩, st9⟩ := Jvm.LawKit.callS X8 hx (y := (⟨"com/example/tandem_scroll/tandemscroll/formats/Bytes", "value", "(JI)J"⟩ : MethodName)) hown (mvT hZ (hw _ (List.mem_of_getElem? (i := 6) rfl))) (mvT hZ (hw _ (List.mem_of_getElem? (i := 7) rfl))) (mvT hZ (hw _ (List.mem_of_getElem? (i := 8) rfl))) (mvT hZ (hw _ (List.mem_of_getElem? (i := 9) rfl))) (by decide) (backOf (W := 0) (rm_val l Z a0 hw [] (wordF xd xg (nF xo)) (nF xo) h0 n0 Z0) hZ (hw _ (List.mem_of_getElem? (i := 9) rfl)) (hw _ (List.mem_of_getElem? (i := 8) rfl)) (by decide) (by decide)) (g := (mkF m 322 #[.val (.long xd), .second, .val (.long xg), .second, .val (.int xo), .val (.int (nF xo)), .val (.int (digF xd (0 : Int32))), .val (.int (digF xd (1 : Int32))), .val (.int (digF xd (2 : Int32))), .val (.int (digF xd (3 : Int32))), .val (.int (digF xd (4 : Int32))), .val (.int (digF xd (5 : Int32))), .val (.int (digF xd (6 : Int32))), .val (.int (digF xd (7 : Int32))), .val (.long (dwF xd)), .second, .val (.long (lowF (nF xo))), .second, .val (.long (wordF xd xg (nF xo))), .second, .val (.long (e7F xd (nF xo))), .second] [(.int (nF xo)), (.long (wordF xd xg (nF xo)))])) rfl (by rw [hml]; rfl) (argsL := [(.long (wordF xd xg (nF xo))), (.int (nF xo))]) (rest := []) (lenOf pd_1 rfl) rfl (by show 2 * 0 + _ ≤ _; exact Nat.le_of_eq rfl) (hb hby at_322) (fun _ _ => ⟨rfl, e8, (by decide : 0 + 0 ≤ _), (by decide : 0 + 0 ≤ _)⟩)
  dsimp only [Pt.U, Pt.locs, Pt.cells, Pt.slots] at X9 l9 y9 z9 st9 hQ9
  subst l9 y9 z9
  obtain ⟨rfl, N9q, e9⟩ := hQ9
  have N9 := Fr.app N8 N9q
  obtain ⟨fs, hr, hrun, hended, hW, hsame⟩ := X9.leave (v := some (.int (lawF xd xg xo))) (fun h => by rw [Bd.returns] at h; cases h)
  refine ⟨_, _, pre0 _ ?_, hrun, hended, _, _, rfl, ?_, ⟨_, rfl⟩, hW, hsame.mono (by decide) (by decide)⟩
  · show Steps p.tables e below (s₁.setTop (mkF m 0 #[.val (.long xd), .second, .val (.long xg), .second, .val (.int xo), .unset, .unset, .unset, .unset, .unset, .unset, .unset, .unset, .unset, .unset, .unset, .unset, .unset, .unset, .unset, .unset, .unset] [])) _
    refine XS.iload X0.here hx rfl (hb hby at_0) rfl ?_
    show Steps p.tables e below (s₁.setTop (mkF m 2 #[.val (.long xd), .second, .val (.long xg), .second, .val (.int xo), .unset, .unset, .unset, .unset, .unset, .unset, .unset, .unset, .unset, .unset, .unset, .unset, .unset, .unset, .unset, .unset, .unset] [(.int xo)])) _
    refine XS.bipush X0.here hx rfl (hb hby at_2) ?_
    show Steps p.tables e below (s₁.setTop (mkF m 4 #[.val (.long xd), .second, .val (.long xg), .second, .val (.int xo), .unset, .unset, .unset, .unset, .unset, .unset, .unset, .unset, .unset, .unset, .unset, .unset, .unset, .unset, .unset, .unset, .unset] [(.int (7 : Int32)), (.int xo)])) _
    refine XS.iand X0.here hx rfl (hb hby at_4) rfl ?_
    show Steps p.tables e below (s₁.setTop (mkF m 5 #[.val (.long xd), .second, .val (.long xg), .second, .val (.int xo), .unset, .unset, .unset, .unset, .unset, .unset, .unset, .unset, .unset, .unset, .unset, .unset, .unset, .unset, .unset, .unset, .unset] [(.int (xo &&& (7 : Int32)))])) _
    refine XS.iconst X0.here hx rfl (hb hby at_5) ?_
    show Steps p.tables e below (s₁.setTop (mkF m 6 #[.val (.long xd), .second, .val (.long xg), .second, .val (.int xo), .unset, .unset, .unset, .unset, .unset, .unset, .unset, .unset, .unset, .unset, .unset, .unset, .unset, .unset, .unset, .unset, .unset] [(.int (1 : Int32)), (.int (xo &&& (7 : Int32)))])) _
    refine XS.iadd X0.here hx rfl (hb hby at_6) rfl ?_
    show Steps p.tables e below (s₁.setTop (mkF m 7 #[.val (.long xd), .second, .val (.long xg), .second, .val (.int xo), .unset, .unset, .unset, .unset, .unset, .unset, .unset, .unset, .unset, .unset, .unset, .unset, .unset, .unset, .unset, .unset, .unset] [(.int ((xo &&& (7 : Int32)) + (1 : Int32)))])) _
    refine XS.istore X0.here hx rfl (hb hby at_7) rfl (l' := #[.val (.long xd), .second, .val (.long xg), .second, .val (.int xo), .val (.int (nF xo)), .unset, .unset, .unset, .unset, .unset, .unset, .unset, .unset, .unset, .unset, .unset, .unset, .unset, .unset, .unset, .unset]) rfl ?_
    show Steps p.tables e below (s₁.setTop (mkF m 9 #[.val (.long xd), .second, .val (.long xg), .second, .val (.int xo), .val (.int (nF xo)), .unset, .unset, .unset, .unset, .unset, .unset, .unset, .unset, .unset, .unset, .unset, .unset, .unset, .unset, .unset, .unset] [])) _
    refine XS.lloadN X0.here hx rfl (hb hby at_9) rfl ?_
    show Steps p.tables e below (s₁.setTop (mkF m 10 #[.val (.long xd), .second, .val (.long xg), .second, .val (.int xo), .val (.int (nF xo)), .unset, .unset, .unset, .unset, .unset, .unset, .unset, .unset, .unset, .unset, .unset, .unset, .unset, .unset, .unset, .unset] [(.long xd)])) _
    refine XS.iconst X0.here hx rfl (hb hby at_10) ?_
    show Steps p.tables e below (s₁.setTop (mkF m 11 #[.val (.long xd), .second, .val (.long xg), .second, .val (.int xo), .val (.int (nF xo)), .unset, .unset, .unset, .unset, .unset, .unset, .unset, .unset, .unset, .unset, .unset, .unset, .unset, .unset, .unset, .unset] [(.int (0 : Int32)), (.long xd)])) _
    refine st1 _ ?_
    show Steps p.tables e below (T1.setTop (mkF m 14 #[.val (.long xd), .second, .val (.long xg), .second, .val (.int xo), .val (.int (nF xo)), .unset, .unset, .unset, .unset, .unset, .unset, .unset, .unset, .unset, .unset, .unset, .unset, .unset, .unset, .unset, .unset] [(.int (digF xd (0 : Int32)))])) _
    refine XS.istore X1.here hx rfl (hb hby at_14) rfl (l' := #[.val (.long xd), .second, .val (.long xg), .second, .val (.int xo), .val (.int (nF xo)), .val (.int (digF xd (0 : Int32))), .unset, .unset, .unset, .unset, .unset, .unset, .unset, .unset, .unset, .unset, .unset, .unset, .unset, .unset, .unset]) rfl ?_
    show Steps p.tables e below (T1.setTop (mkF m 16 #[.val (.long xd), .second, .val (.long xg), .second, .val (.int xo), .val (.int (nF xo)), .val (.int (digF xd (0 : Int32))), .unset, .unset, .unset, .unset, .unset, .unset, .unset, .unset, .unset, .unset, .unset, .unset, .unset, .unset, .unset] [])) _
    refine XS.lloadN X1.here hx rfl (hb hby at_16) rfl ?_
    show Steps p.tables e below (T1.setTop (mkF m 17 #[.val (.long xd), .second, .val (.long xg), .second, .val (.int xo), .val (.int (nF xo)), .val (.int (digF xd (0 : Int32))), .unset, .unset, .unset, .unset, .unset, .unset, .unset, .unset, .unset, .unset, .unset, .unset, .unset, .unset, .unset] [(.long xd)])) _
    refine XS.iconst X1.here hx rfl (hb hby at_17) ?_
    show Steps p.tables e below (T1.setTop (mkF m 18 #[.val (.long xd), .second, .val (.long xg), .second, .val (.int xo), .val (.int (nF xo)), .val (.int (digF xd (0 : Int32))), .unset, .unset, .unset, .unset, .unset, .unset, .unset, .unset, .unset, .unset, .unset, .unset, .unset, .unset, .unset] [(.int (1 : Int32)), (.long xd)])) _
    refine st2 _ ?_
    show Steps p.tables e below (T2.setTop (mkF m 21 #[.val (.long xd), .second, .val (.long xg), .second, .val (.int xo), .val (.int (nF xo)), .val (.int (digF xd (0 : Int32))), .unset, .unset, .unset, .unset, .unset, .unset, .unset, .unset, .unset, .unset, .unset, .unset, .unset, .unset, .unset] [(.int (digF xd (1 : Int32)))])) _
    refine XS.istore X2.here hx rfl (hb hby at_21) rfl (l' := #[.val (.long xd), .second, .val (.long xg), .second, .val (.int xo), .val (.int (nF xo)), .val (.int (digF xd (0 : Int32))), .val (.int (digF xd (1 : Int32))), .unset, .unset, .unset, .unset, .unset, .unset, .unset, .unset, .unset, .unset, .unset, .unset, .unset, .unset]) rfl ?_
    show Steps p.tables e below (T2.setTop (mkF m 23 #[.val (.long xd), .second, .val (.long xg), .second, .val (.int xo), .val (.int (nF xo)), .val (.int (digF xd (0 : Int32))), .val (.int (digF xd (1 : Int32))), .unset, .unset, .unset, .unset, .unset, .unset, .unset, .unset, .unset, .unset, .unset, .unset, .unset, .unset] [])) _
    refine XS.lloadN X2.here hx rfl (hb hby at_23) rfl ?_
    show Steps p.tables e below (T2.setTop (mkF m 24 #[.val (.long xd), .second, .val (.long xg), .second, .val (.int xo), .val (.int (nF xo)), .val (.int (digF xd (0 : Int32))), .val (.int (digF xd (1 : Int32))), .unset, .unset, .unset, .unset, .unset, .unset, .unset, .unset, .unset, .unset, .unset, .unset, .unset, .unset] [(.long xd)])) _
    refine XS.iconst X2.here hx rfl (hb hby at_24) ?_
    show Steps p.tables e below (T2.setTop (mkF m 25 #[.val (.long xd), .second, .val (.long xg), .second, .val (.int xo), .val (.int (nF xo)), .val (.int (digF xd (0 : Int32))), .val (.int (digF xd (1 : Int32))), .unset, .unset, .unset, .unset, .unset, .unset, .unset, .unset, .unset, .unset, .unset, .unset, .unset, .unset] [(.int (2 : Int32)), (.long xd)])) _
    refine st3 _ ?_
    show Steps p.tables e below (T3.setTop (mkF m 28 #[.val (.long xd), .second, .val (.long xg), .second, .val (.int xo), .val (.int (nF xo)), .val (.int (digF xd (0 : Int32))), .val (.int (digF xd (1 : Int32))), .unset, .unset, .unset, .unset, .unset, .unset, .unset, .unset, .unset, .unset, .unset, .unset, .unset, .unset] [(.int (digF xd (2 : Int32)))])) _
    refine XS.istore X3.here hx rfl (hb hby at_28) rfl (l' := #[.val (.long xd), .second, .val (.long xg), .second, .val (.int xo), .val (.int (nF xo)), .val (.int (digF xd (0 : Int32))), .val (.int (digF xd (1 : Int32))), .val (.int (digF xd (2 : Int32))), .unset, .unset, .unset, .unset, .unset, .unset, .unset, .unset, .unset, .unset, .unset, .unset, .unset]) rfl ?_
    show Steps p.tables e below (T3.setTop (mkF m 30 #[.val (.long xd), .second, .val (.long xg), .second, .val (.int xo), .val (.int (nF xo)), .val (.int (digF xd (0 : Int32))), .val (.int (digF xd (1 : Int32))), .val (.int (digF xd (2 : Int32))), .unset, .unset, .unset, .unset, .unset, .unset, .unset, .unset, .unset, .unset, .unset, .unset, .unset] [])) _
    refine XS.lloadN X3.here hx rfl (hb hby at_30) rfl ?_
    show Steps p.tables e below (T3.setTop (mkF m 31 #[.val (.long xd), .second, .val (.long xg), .second, .val (.int xo), .val (.int (nF xo)), .val (.int (digF xd (0 : Int32))), .val (.int (digF xd (1 : Int32))), .val (.int (digF xd (2 : Int32))), .unset, .unset, .unset, .unset, .unset, .unset, .unset, .unset, .unset, .unset, .unset, .unset, .unset] [(.long xd)])) _
    refine XS.iconst X3.here hx rfl (hb hby at_31) ?_
    show Steps p.tables e below (T3.setTop (mkF m 32 #[.val (.long xd), .second, .val (.long xg), .second, .val (.int xo), .val (.int (nF xo)), .val (.int (digF xd (0 : Int32))), .val (.int (digF xd (1 : Int32))), .val (.int (digF xd (2 : Int32))), .unset, .unset, .unset, .unset, .unset, .unset, .unset, .unset, .unset, .unset, .unset, .unset, .unset] [(.int (3 : Int32)), (.long xd)])) _
    refine st4 _ ?_
    show Steps p.tables e below (T4.setTop (mkF m 35 #[.val (.long xd), .second, .val (.long xg), .second, .val (.int xo), .val (.int (nF xo)), .val (.int (digF xd (0 : Int32))), .val (.int (digF xd (1 : Int32))), .val (.int (digF xd (2 : Int32))), .unset, .unset, .unset, .unset, .unset, .unset, .unset, .unset, .unset, .unset, .unset, .unset, .unset] [(.int (digF xd (3 : Int32)))])) _
    refine XS.istore X4.here hx rfl (hb hby at_35) rfl (l' := #[.val (.long xd), .second, .val (.long xg), .second, .val (.int xo), .val (.int (nF xo)), .val (.int (digF xd (0 : Int32))), .val (.int (digF xd (1 : Int32))), .val (.int (digF xd (2 : Int32))), .val (.int (digF xd (3 : Int32))), .unset, .unset, .unset, .unset, .unset, .unset, .unset, .unset, .unset, .unset, .unset, .unset]) rfl ?_
    show Steps p.tables e below (T4.setTop (mkF m 37 #[.val (.long xd), .second, .val (.long xg), .second, .val (.int xo), .val (.int (nF xo)), .val (.int (digF xd (0 : Int32))), .val (.int (digF xd (1 : Int32))), .val (.int (digF xd (2 : Int32))), .val (.int (digF xd (3 : Int32))), .unset, .unset, .unset, .unset, .unset, .unset, .unset, .unset, .unset, .unset, .unset, .unset] [])) _
    refine XS.lloadN X4.here hx rfl (hb hby at_37) rfl ?_
    show Steps p.tables e below (T4.setTop (mkF m 38 #[.val (.long xd), .second, .val (.long xg), .second, .val (.int xo), .val (.int (nF xo)), .val (.int (digF xd (0 : Int32))), .val (.int (digF xd (1 : Int32))), .val (.int (digF xd (2 : Int32))), .val (.int (digF xd (3 : Int32))), .unset, .unset, .unset, .unset, .unset, .unset, .unset, .unset, .unset, .unset, .unset, .unset] [(.long xd)])) _
    refine XS.iconst X4.here hx rfl (hb hby at_38) ?_
    show Steps p.tables e below (T4.setTop (mkF m 39 #[.val (.long xd), .second, .val (.long xg), .second, .val (.int xo), .val (.int (nF xo)), .val (.int (digF xd (0 : Int32))), .val (.int (digF xd (1 : Int32))), .val (.int (digF xd (2 : Int32))), .val (.int (digF xd (3 : Int32))), .unset, .unset, .unset, .unset, .unset, .unset, .unset, .unset, .unset, .unset, .unset, .unset] [(.int (4 : Int32)), (.long xd)])) _
    refine st5 _ ?_
    show Steps p.tables e below (T5.setTop (mkF m 42 #[.val (.long xd), .second, .val (.long xg), .second, .val (.int xo), .val (.int (nF xo)), .val (.int (digF xd (0 : Int32))), .val (.int (digF xd (1 : Int32))), .val (.int (digF xd (2 : Int32))), .val (.int (digF xd (3 : Int32))), .unset, .unset, .unset, .unset, .unset, .unset, .unset, .unset, .unset, .unset, .unset, .unset] [(.int (digF xd (4 : Int32)))])) _
    refine XS.istore X5.here hx rfl (hb hby at_42) rfl (l' := #[.val (.long xd), .second, .val (.long xg), .second, .val (.int xo), .val (.int (nF xo)), .val (.int (digF xd (0 : Int32))), .val (.int (digF xd (1 : Int32))), .val (.int (digF xd (2 : Int32))), .val (.int (digF xd (3 : Int32))), .val (.int (digF xd (4 : Int32))), .unset, .unset, .unset, .unset, .unset, .unset, .unset, .unset, .unset, .unset, .unset]) rfl ?_
    show Steps p.tables e below (T5.setTop (mkF m 44 #[.val (.long xd), .second, .val (.long xg), .second, .val (.int xo), .val (.int (nF xo)), .val (.int (digF xd (0 : Int32))), .val (.int (digF xd (1 : Int32))), .val (.int (digF xd (2 : Int32))), .val (.int (digF xd (3 : Int32))), .val (.int (digF xd (4 : Int32))), .unset, .unset, .unset, .unset, .unset, .unset, .unset, .unset, .unset, .unset, .unset] [])) _
    refine XS.lloadN X5.here hx rfl (hb hby at_44) rfl ?_
    show Steps p.tables e below (T5.setTop (mkF m 45 #[.val (.long xd), .second, .val (.long xg), .second, .val (.int xo), .val (.int (nF xo)), .val (.int (digF xd (0 : Int32))), .val (.int (digF xd (1 : Int32))), .val (.int (digF xd (2 : Int32))), .val (.int (digF xd (3 : Int32))), .val (.int (digF xd (4 : Int32))), .unset, .unset, .unset, .unset, .unset, .unset, .unset, .unset, .unset, .unset, .unset] [(.long xd)])) _
    refine XS.iconst X5.here hx rfl (hb hby at_45) ?_
    show Steps p.tables e below (T5.setTop (mkF m 46 #[.val (.long xd), .second, .val (.long xg), .second, .val (.int xo), .val (.int (nF xo)), .val (.int (digF xd (0 : Int32))), .val (.int (digF xd (1 : Int32))), .val (.int (digF xd (2 : Int32))), .val (.int (digF xd (3 : Int32))), .val (.int (digF xd (4 : Int32))), .unset, .unset, .unset, .unset, .unset, .unset, .unset, .unset, .unset, .unset, .unset] [(.int (5 : Int32)), (.long xd)])) _
    refine st6 _ ?_
    show Steps p.tables e below (T6.setTop (mkF m 49 #[.val (.long xd), .second, .val (.long xg), .second, .val (.int xo), .val (.int (nF xo)), .val (.int (digF xd (0 : Int32))), .val (.int (digF xd (1 : Int32))), .val (.int (digF xd (2 : Int32))), .val (.int (digF xd (3 : Int32))), .val (.int (digF xd (4 : Int32))), .unset, .unset, .unset, .unset, .unset, .unset, .unset, .unset, .unset, .unset, .unset] [(.int (digF xd (5 : Int32)))])) _
    refine XS.istore X6.here hx rfl (hb hby at_49) rfl (l' := #[.val (.long xd), .second, .val (.long xg), .second, .val (.int xo), .val (.int (nF xo)), .val (.int (digF xd (0 : Int32))), .val (.int (digF xd (1 : Int32))), .val (.int (digF xd (2 : Int32))), .val (.int (digF xd (3 : Int32))), .val (.int (digF xd (4 : Int32))), .val (.int (digF xd (5 : Int32))), .unset, .unset, .unset, .unset, .unset, .unset, .unset, .unset, .unset, .unset]) rfl ?_
    show Steps p.tables e below (T6.setTop (mkF m 51 #[.val (.long xd), .second, .val (.long xg), .second, .val (.int xo), .val (.int (nF xo)), .val (.int (digF xd (0 : Int32))), .val (.int (digF xd (1 : Int32))), .val (.int (digF xd (2 : Int32))), .val (.int (digF xd (3 : Int32))), .val (.int (digF xd (4 : Int32))), .val (.int (digF xd (5 : Int32))), .unset, .unset, .unset, .unset, .unset, .unset, .unset, .unset, .unset, .unset] [])) _
    refine XS.lloadN X6.here hx rfl (hb hby at_51) rfl ?_
    show Steps p.tables e below (T6.setTop (mkF m 52 #[.val (.long xd), .second, .val (.long xg), .second, .val (.int xo), .val (.int (nF xo)), .val (.int (digF xd (0 : Int32))), .val (.int (digF xd (1 : Int32))), .val (.int (digF xd (2 : Int32))), .val (.int (digF xd (3 : Int32))), .val (.int (digF xd (4 : Int32))), .val (.int (digF xd (5 : Int32))), .unset, .unset, .unset, .unset, .unset, .unset, .unset, .unset, .unset, .unset] [(.long xd)])) _
    refine XS.bipush X6.here hx rfl (hb hby at_52) ?_
    show Steps p.tables e below (T6.setTop (mkF m 54 #[.val (.long xd), .second, .val (.long xg), .second, .val (.int xo), .val (.int (nF xo)), .val (.int (digF xd (0 : Int32))), .val (.int (digF xd (1 : Int32))), .val (.int (digF xd (2 : Int32))), .val (.int (digF xd (3 : Int32))), .val (.int (digF xd (4 : Int32))), .val (.int (digF xd (5 : Int32))), .unset, .unset, .unset, .unset, .unset, .unset, .unset, .unset, .unset, .unset] [(.int (6 : Int32)), (.long xd)])) _
    refine st7 _ ?_
    show Steps p.tables e below (T7.setTop (mkF m 57 #[.val (.long xd), .second, .val (.long xg), .second, .val (.int xo), .val (.int (nF xo)), .val (.int (digF xd (0 : Int32))), .val (.int (digF xd (1 : Int32))), .val (.int (digF xd (2 : Int32))), .val (.int (digF xd (3 : Int32))), .val (.int (digF xd (4 : Int32))), .val (.int (digF xd (5 : Int32))), .unset, .unset, .unset, .unset, .unset, .unset, .unset, .unset, .unset, .unset] [(.int (digF xd (6 : Int32)))])) _
    refine XS.istore X7.here hx rfl (hb hby at_57) rfl (l' := #[.val (.long xd), .second, .val (.long xg), .second, .val (.int xo), .val (.int (nF xo)), .val (.int (digF xd (0 : Int32))), .val (.int (digF xd (1 : Int32))), .val (.int (digF xd (2 : Int32))), .val (.int (digF xd (3 : Int32))), .val (.int (digF xd (4 : Int32))), .val (.int (digF xd (5 : Int32))), .val (.int (digF xd (6 : Int32))), .unset, .unset, .unset, .unset, .unset, .unset, .unset, .unset, .unset]) rfl ?_
    show Steps p.tables e below (T7.setTop (mkF m 59 #[.val (.long xd), .second, .val (.long xg), .second, .val (.int xo), .val (.int (nF xo)), .val (.int (digF xd (0 : Int32))), .val (.int (digF xd (1 : Int32))), .val (.int (digF xd (2 : Int32))), .val (.int (digF xd (3 : Int32))), .val (.int (digF xd (4 : Int32))), .val (.int (digF xd (5 : Int32))), .val (.int (digF xd (6 : Int32))), .unset, .unset, .unset, .unset, .unset, .unset, .unset, .unset, .unset] [])) _
    refine XS.lloadN X7.here hx rfl (hb hby at_59) rfl ?_
    show Steps p.tables e below (T7.setTop (mkF m 60 #[.val (.long xd), .second, .val (.long xg), .second, .val (.int xo), .val (.int (nF xo)), .val (.int (digF xd (0 : Int32))), .val (.int (digF xd (1 : Int32))), .val (.int (digF xd (2 : Int32))), .val (.int (digF xd (3 : Int32))), .val (.int (digF xd (4 : Int32))), .val (.int (digF xd (5 : Int32))), .val (.int (digF xd (6 : Int32))), .unset, .unset, .unset, .unset, .unset, .unset, .unset, .unset, .unset] [(.long xd)])) _
    refine XS.bipush X7.here hx rfl (hb hby at_60) ?_
    show Steps p.tables e below (T7.setTop (mkF m 62 #[.val (.long xd), .second, .val (.long xg), .second, .val (.int xo), .val (.int (nF xo)), .val (.int (digF xd (0 : Int32))), .val (.int (digF xd (1 : Int32))), .val (.int (digF xd (2 : Int32))), .val (.int (digF xd (3 : Int32))), .val (.int (digF xd (4 : Int32))), .val (.int (digF xd (5 : Int32))), .val (.int (digF xd (6 : Int32))), .unset, .unset, .unset, .unset, .unset, .unset, .unset, .unset, .unset] [(.int (7 : Int32)), (.long xd)])) _
    refine st8 _ ?_
    show Steps p.tables e below (T8.setTop (mkF m 65 #[.val (.long xd), .second, .val (.long xg), .second, .val (.int xo), .val (.int (nF xo)), .val (.int (digF xd (0 : Int32))), .val (.int (digF xd (1 : Int32))), .val (.int (digF xd (2 : Int32))), .val (.int (digF xd (3 : Int32))), .val (.int (digF xd (4 : Int32))), .val (.int (digF xd (5 : Int32))), .val (.int (digF xd (6 : Int32))), .unset, .unset, .unset, .unset, .unset, .unset, .unset, .unset, .unset] [(.int (digF xd (7 : Int32)))])) _
    refine XS.istore X8.here hx rfl (hb hby at_65) rfl (l' := #[.val (.long xd), .second, .val (.long xg), .second, .val (.int xo), .val (.int (nF xo)), .val (.int (digF xd (0 : Int32))), .val (.int (digF xd (1 : Int32))), .val (.int (digF xd (2 : Int32))), .val (.int (digF xd (3 : Int32))), .val (.int (digF xd (4 : Int32))), .val (.int (digF xd (5 : Int32))), .val (.int (digF xd (6 : Int32))), .val (.int (digF xd (7 : Int32))), .unset, .unset, .unset, .unset, .unset, .unset, .unset, .unset]) rfl ?_
    show Steps p.tables e below (T8.setTop (mkF m 67 #[.val (.long xd), .second, .val (.long xg), .second, .val (.int xo), .val (.int (nF xo)), .val (.int (digF xd (0 : Int32))), .val (.int (digF xd (1 : Int32))), .val (.int (digF xd (2 : Int32))), .val (.int (digF xd (3 : Int32))), .val (.int (digF xd (4 : Int32))), .val (.int (digF xd (5 : Int32))), .val (.int (digF xd (6 : Int32))), .val (.int (digF xd (7 : Int32))), .unset, .unset, .unset, .unset, .unset, .unset, .unset, .unset] [])) _
    refine XS.bipush X8.here hx rfl (hb hby at_67) ?_
    show Steps p.tables e below (T8.setTop (mkF m 69 #[.val (.long xd), .second, .val (.long xg), .second, .val (.int xo), .val (.int (nF xo)), .val (.int (digF xd (0 : Int32))), .val (.int (digF xd (1 : Int32))), .val (.int (digF xd (2 : Int32))), .val (.int (digF xd (3 : Int32))), .val (.int (digF xd (4 : Int32))), .val (.int (digF xd (5 : Int32))), .val (.int (digF xd (6 : Int32))), .val (.int (digF xd (7 : Int32))), .unset, .unset, .unset, .unset, .unset, .unset, .unset, .unset] [(.int (48 : Int32))])) _
    refine XS.iload X8.here hx rfl (hb hby at_69) rfl ?_
    show Steps p.tables e below (T8.setTop (mkF m 71 #[.val (.long xd), .second, .val (.long xg), .second, .val (.int xo), .val (.int (nF xo)), .val (.int (digF xd (0 : Int32))), .val (.int (digF xd (1 : Int32))), .val (.int (digF xd (2 : Int32))), .val (.int (digF xd (3 : Int32))), .val (.int (digF xd (4 : Int32))), .val (.int (digF xd (5 : Int32))), .val (.int (digF xd (6 : Int32))), .val (.int (digF xd (7 : Int32))), .unset, .unset, .unset, .unset, .unset, .unset, .unset, .unset] [(.int (digF xd (0 : Int32))), (.int (48 : Int32))])) _
    refine XS.iadd X8.here hx rfl (hb hby at_71) rfl ?_
    show Steps p.tables e below (T8.setTop (mkF m 72 #[.val (.long xd), .second, .val (.long xg), .second, .val (.int xo), .val (.int (nF xo)), .val (.int (digF xd (0 : Int32))), .val (.int (digF xd (1 : Int32))), .val (.int (digF xd (2 : Int32))), .val (.int (digF xd (3 : Int32))), .val (.int (digF xd (4 : Int32))), .val (.int (digF xd (5 : Int32))), .val (.int (digF xd (6 : Int32))), .val (.int (digF xd (7 : Int32))), .unset, .unset, .unset, .unset, .unset, .unset, .unset, .unset] [(.int ((48 : Int32) + (digF xd (0 : Int32))))])) _
    refine XS.i2l X8.here hx rfl (hb hby at_72) rfl ?_
    show Steps p.tables e below (T8.setTop (mkF m 73 #[.val (.long xd), .second, .val (.long xg), .second, .val (.int xo), .val (.int (nF xo)), .val (.int (digF xd (0 : Int32))), .val (.int (digF xd (1 : Int32))), .val (.int (digF xd (2 : Int32))), .val (.int (digF xd (3 : Int32))), .val (.int (digF xd (4 : Int32))), .val (.int (digF xd (5 : Int32))), .val (.int (digF xd (6 : Int32))), .val (.int (digF xd (7 : Int32))), .unset, .unset, .unset, .unset, .unset, .unset, .unset, .unset] [(.long (((48 : Int32) + (digF xd (0 : Int32))).toInt64))])) _
    refine XS.bipush X8.here hx rfl (hb hby at_73) ?_
    show Steps p.tables e below (T8.setTop (mkF m 75 #[.val (.long xd), .second, .val (.long xg), .second, .val (.int xo), .val (.int (nF xo)), .val (.int (digF xd (0 : Int32))), .val (.int (digF xd (1 : Int32))), .val (.int (digF xd (2 : Int32))), .val (.int (digF xd (3 : Int32))), .val (.int (digF xd (4 : Int32))), .val (.int (digF xd (5 : Int32))), .val (.int (digF xd (6 : Int32))), .val (.int (digF xd (7 : Int32))), .unset, .unset, .unset, .unset, .unset, .unset, .unset, .unset] [(.int (48 : Int32)), (.long (((48 : Int32) + (digF xd (0 : Int32))).toInt64))])) _
    refine XS.iload X8.here hx rfl (hb hby at_75) rfl ?_
    show Steps p.tables e below (T8.setTop (mkF m 77 #[.val (.long xd), .second, .val (.long xg), .second, .val (.int xo), .val (.int (nF xo)), .val (.int (digF xd (0 : Int32))), .val (.int (digF xd (1 : Int32))), .val (.int (digF xd (2 : Int32))), .val (.int (digF xd (3 : Int32))), .val (.int (digF xd (4 : Int32))), .val (.int (digF xd (5 : Int32))), .val (.int (digF xd (6 : Int32))), .val (.int (digF xd (7 : Int32))), .unset, .unset, .unset, .unset, .unset, .unset, .unset, .unset] [(.int (digF xd (1 : Int32))), (.int (48 : Int32)), (.long (((48 : Int32) + (digF xd (0 : Int32))).toInt64))])) _
    refine XS.iadd X8.here hx rfl (hb hby at_77) rfl ?_
    show Steps p.tables e below (T8.setTop (mkF m 78 #[.val (.long xd), .second, .val (.long xg), .second, .val (.int xo), .val (.int (nF xo)), .val (.int (digF xd (0 : Int32))), .val (.int (digF xd (1 : Int32))), .val (.int (digF xd (2 : Int32))), .val (.int (digF xd (3 : Int32))), .val (.int (digF xd (4 : Int32))), .val (.int (digF xd (5 : Int32))), .val (.int (digF xd (6 : Int32))), .val (.int (digF xd (7 : Int32))), .unset, .unset, .unset, .unset, .unset, .unset, .unset, .unset] [(.int ((48 : Int32) + (digF xd (1 : Int32)))), (.long (((48 : Int32) + (digF xd (0 : Int32))).toInt64))])) _
    refine XS.i2l X8.here hx rfl (hb hby at_78) rfl ?_
    show Steps p.tables e below (T8.setTop (mkF m 79 #[.val (.long xd), .second, .val (.long xg), .second, .val (.int xo), .val (.int (nF xo)), .val (.int (digF xd (0 : Int32))), .val (.int (digF xd (1 : Int32))), .val (.int (digF xd (2 : Int32))), .val (.int (digF xd (3 : Int32))), .val (.int (digF xd (4 : Int32))), .val (.int (digF xd (5 : Int32))), .val (.int (digF xd (6 : Int32))), .val (.int (digF xd (7 : Int32))), .unset, .unset, .unset, .unset, .unset, .unset, .unset, .unset] [(.long (((48 : Int32) + (digF xd (1 : Int32))).toInt64)), (.long (((48 : Int32) + (digF xd (0 : Int32))).toInt64))])) _
    refine XS.bipush X8.here hx rfl (hb hby at_79) ?_
    show Steps p.tables e below (T8.setTop (mkF m 81 #[.val (.long xd), .second, .val (.long xg), .second, .val (.int xo), .val (.int (nF xo)), .val (.int (digF xd (0 : Int32))), .val (.int (digF xd (1 : Int32))), .val (.int (digF xd (2 : Int32))), .val (.int (digF xd (3 : Int32))), .val (.int (digF xd (4 : Int32))), .val (.int (digF xd (5 : Int32))), .val (.int (digF xd (6 : Int32))), .val (.int (digF xd (7 : Int32))), .unset, .unset, .unset, .unset, .unset, .unset, .unset, .unset] [(.int (8 : Int32)), (.long (((48 : Int32) + (digF xd (1 : Int32))).toInt64)), (.long (((48 : Int32) + (digF xd (0 : Int32))).toInt64))])) _
    refine XS.lshl X8.here hx rfl (hb hby at_81) rfl ?_
    show Steps p.tables e below (T8.setTop (mkF m 82 #[.val (.long xd), .second, .val (.long xg), .second, .val (.int xo), .val (.int (nF xo)), .val (.int (digF xd (0 : Int32))), .val (.int (digF xd (1 : Int32))), .val (.int (digF xd (2 : Int32))), .val (.int (digF xd (3 : Int32))), .val (.int (digF xd (4 : Int32))), .val (.int (digF xd (5 : Int32))), .val (.int (digF xd (6 : Int32))), .val (.int (digF xd (7 : Int32))), .unset, .unset, .unset, .unset, .unset, .unset, .unset, .unset] [(.long (pcF (digF xd (1 : Int32)) (8 : Int32))), (.long (((48 : Int32) + (digF xd (0 : Int32))).toInt64))])) _
    refine XS.lor X8.here hx rfl (hb hby at_82) rfl ?_
    show Steps p.tables e below (T8.setTop (mkF m 83 #[.val (.long xd), .second, .val (.long xg), .second, .val (.int xo), .val (.int (nF xo)), .val (.int (digF xd (0 : Int32))), .val (.int (digF xd (1 : Int32))), .val (.int (digF xd (2 : Int32))), .val (.int (digF xd (3 : Int32))), .val (.int (digF xd (4 : Int32))), .val (.int (digF xd (5 : Int32))), .val (.int (digF xd (6 : Int32))), .val (.int (digF xd (7 : Int32))), .unset, .unset, .unset, .unset, .unset, .unset, .unset, .unset] [(.long ((((48 : Int32) + (digF xd (0 : Int32))).toInt64) ||| (pcF (digF xd (1 : Int32)) (8 : Int32))))])) _
    refine XS.bipush X8.here hx rfl (hb hby at_83) ?_
    show Steps p.tables e below (T8.setTop (mkF m 85 #[.val (.long xd), .second, .val (.long xg), .second, .val (.int xo), .val (.int (nF xo)), .val (.int (digF xd (0 : Int32))), .val (.int (digF xd (1 : Int32))), .val (.int (digF xd (2 : Int32))), .val (.int (digF xd (3 : Int32))), .val (.int (digF xd (4 : Int32))), .val (.int (digF xd (5 : Int32))), .val (.int (digF xd (6 : Int32))), .val (.int (digF xd (7 : Int32))), .unset, .unset, .unset, .unset, .unset, .unset, .unset, .unset] [(.int (48 : Int32)), (.long ((((48 : Int32) + (digF xd (0 : Int32))).toInt64) ||| (pcF (digF xd (1 : Int32)) (8 : Int32))))])) _
    refine XS.iload X8.here hx rfl (hb hby at_85) rfl ?_
    show Steps p.tables e below (T8.setTop (mkF m 87 #[.val (.long xd), .second, .val (.long xg), .second, .val (.int xo), .val (.int (nF xo)), .val (.int (digF xd (0 : Int32))), .val (.int (digF xd (1 : Int32))), .val (.int (digF xd (2 : Int32))), .val (.int (digF xd (3 : Int32))), .val (.int (digF xd (4 : Int32))), .val (.int (digF xd (5 : Int32))), .val (.int (digF xd (6 : Int32))), .val (.int (digF xd (7 : Int32))), .unset, .unset, .unset, .unset, .unset, .unset, .unset, .unset] [(.int (digF xd (2 : Int32))), (.int (48 : Int32)), (.long ((((48 : Int32) + (digF xd (0 : Int32))).toInt64) ||| (pcF (digF xd (1 : Int32)) (8 : Int32))))])) _
    refine XS.iadd X8.here hx rfl (hb hby at_87) rfl ?_
    show Steps p.tables e below (T8.setTop (mkF m 88 #[.val (.long xd), .second, .val (.long xg), .second, .val (.int xo), .val (.int (nF xo)), .val (.int (digF xd (0 : Int32))), .val (.int (digF xd (1 : Int32))), .val (.int (digF xd (2 : Int32))), .val (.int (digF xd (3 : Int32))), .val (.int (digF xd (4 : Int32))), .val (.int (digF xd (5 : Int32))), .val (.int (digF xd (6 : Int32))), .val (.int (digF xd (7 : Int32))), .unset, .unset, .unset, .unset, .unset, .unset, .unset, .unset] [(.int ((48 : Int32) + (digF xd (2 : Int32)))), (.long ((((48 : Int32) + (digF xd (0 : Int32))).toInt64) ||| (pcF (digF xd (1 : Int32)) (8 : Int32))))])) _
    refine XS.i2l X8.here hx rfl (hb hby at_88) rfl ?_
    show Steps p.tables e below (T8.setTop (mkF m 89 #[.val (.long xd), .second, .val (.long xg), .second, .val (.int xo), .val (.int (nF xo)), .val (.int (digF xd (0 : Int32))), .val (.int (digF xd (1 : Int32))), .val (.int (digF xd (2 : Int32))), .val (.int (digF xd (3 : Int32))), .val (.int (digF xd (4 : Int32))), .val (.int (digF xd (5 : Int32))), .val (.int (digF xd (6 : Int32))), .val (.int (digF xd (7 : Int32))), .unset, .unset, .unset, .unset, .unset, .unset, .unset, .unset] [(.long (((48 : Int32) + (digF xd (2 : Int32))).toInt64)), (.long ((((48 : Int32) + (digF xd (0 : Int32))).toInt64) ||| (pcF (digF xd (1 : Int32)) (8 : Int32))))])) _
    refine XS.bipush X8.here hx rfl (hb hby at_89) ?_
    show Steps p.tables e below (T8.setTop (mkF m 91 #[.val (.long xd), .second, .val (.long xg), .second, .val (.int xo), .val (.int (nF xo)), .val (.int (digF xd (0 : Int32))), .val (.int (digF xd (1 : Int32))), .val (.int (digF xd (2 : Int32))), .val (.int (digF xd (3 : Int32))), .val (.int (digF xd (4 : Int32))), .val (.int (digF xd (5 : Int32))), .val (.int (digF xd (6 : Int32))), .val (.int (digF xd (7 : Int32))), .unset, .unset, .unset, .unset, .unset, .unset, .unset, .unset] [(.int (16 : Int32)), (.long (((48 : Int32) + (digF xd (2 : Int32))).toInt64)), (.long ((((48 : Int32) + (digF xd (0 : Int32))).toInt64) ||| (pcF (digF xd (1 : Int32)) (8 : Int32))))])) _
    refine XS.lshl X8.here hx rfl (hb hby at_91) rfl ?_
    show Steps p.tables e below (T8.setTop (mkF m 92 #[.val (.long xd), .second, .val (.long xg), .second, .val (.int xo), .val (.int (nF xo)), .val (.int (digF xd (0 : Int32))), .val (.int (digF xd (1 : Int32))), .val (.int (digF xd (2 : Int32))), .val (.int (digF xd (3 : Int32))), .val (.int (digF xd (4 : Int32))), .val (.int (digF xd (5 : Int32))), .val (.int (digF xd (6 : Int32))), .val (.int (digF xd (7 : Int32))), .unset, .unset, .unset, .unset, .unset, .unset, .unset, .unset] [(.long (pcF (digF xd (2 : Int32)) (16 : Int32))), (.long ((((48 : Int32) + (digF xd (0 : Int32))).toInt64) ||| (pcF (digF xd (1 : Int32)) (8 : Int32))))])) _
    refine XS.lor X8.here hx rfl (hb hby at_92) rfl ?_
    show Steps p.tables e below (T8.setTop (mkF m 93 #[.val (.long xd), .second, .val (.long xg), .second, .val (.int xo), .val (.int (nF xo)), .val (.int (digF xd (0 : Int32))), .val (.int (digF xd (1 : Int32))), .val (.int (digF xd (2 : Int32))), .val (.int (digF xd (3 : Int32))), .val (.int (digF xd (4 : Int32))), .val (.int (digF xd (5 : Int32))), .val (.int (digF xd (6 : Int32))), .val (.int (digF xd (7 : Int32))), .unset, .unset, .unset, .unset, .unset, .unset, .unset, .unset] [(.long (((((48 : Int32) + (digF xd (0 : Int32))).toInt64) ||| (pcF (digF xd (1 : Int32)) (8 : Int32))) ||| (pcF (digF xd (2 : Int32)) (16 : Int32))))])) _
    refine XS.bipush X8.here hx rfl (hb hby at_93) ?_
    show Steps p.tables e below (T8.setTop (mkF m 95 #[.val (.long xd), .second, .val (.long xg), .second, .val (.int xo), .val (.int (nF xo)), .val (.int (digF xd (0 : Int32))), .val (.int (digF xd (1 : Int32))), .val (.int (digF xd (2 : Int32))), .val (.int (digF xd (3 : Int32))), .val (.int (digF xd (4 : Int32))), .val (.int (digF xd (5 : Int32))), .val (.int (digF xd (6 : Int32))), .val (.int (digF xd (7 : Int32))), .unset, .unset, .unset, .unset, .unset, .unset, .unset, .unset] [(.int (48 : Int32)), (.long (((((48 : Int32) + (digF xd (0 : Int32))).toInt64) ||| (pcF (digF xd (1 : Int32)) (8 : Int32))) ||| (pcF (digF xd (2 : Int32)) (16 : Int32))))])) _
    refine XS.iload X8.here hx rfl (hb hby at_95) rfl ?_
    show Steps p.tables e below (T8.setTop (mkF m 97 #[.val (.long xd), .second, .val (.long xg), .second, .val (.int xo), .val (.int (nF xo)), .val (.int (digF xd (0 : Int32))), .val (.int (digF xd (1 : Int32))), .val (.int (digF xd (2 : Int32))), .val (.int (digF xd (3 : Int32))), .val (.int (digF xd (4 : Int32))), .val (.int (digF xd (5 : Int32))), .val (.int (digF xd (6 : Int32))), .val (.int (digF xd (7 : Int32))), .unset, .unset, .unset, .unset, .unset, .unset, .unset, .unset] [(.int (digF xd (3 : Int32))), (.int (48 : Int32)), (.long (((((48 : Int32) + (digF xd (0 : Int32))).toInt64) ||| (pcF (digF xd (1 : Int32)) (8 : Int32))) ||| (pcF (digF xd (2 : Int32)) (16 : Int32))))])) _
    refine XS.iadd X8.here hx rfl (hb hby at_97) rfl ?_
    show Steps p.tables e below (T8.setTop (mkF m 98 #[.val (.long xd), .second, .val (.long xg), .second, .val (.int xo), .val (.int (nF xo)), .val (.int (digF xd (0 : Int32))), .val (.int (digF xd (1 : Int32))), .val (.int (digF xd (2 : Int32))), .val (.int (digF xd (3 : Int32))), .val (.int (digF xd (4 : Int32))), .val (.int (digF xd (5 : Int32))), .val (.int (digF xd (6 : Int32))), .val (.int (digF xd (7 : Int32))), .unset, .unset, .unset, .unset, .unset, .unset, .unset, .unset] [(.int ((48 : Int32) + (digF xd (3 : Int32)))), (.long (((((48 : Int32) + (digF xd (0 : Int32))).toInt64) ||| (pcF (digF xd (1 : Int32)) (8 : Int32))) ||| (pcF (digF xd (2 : Int32)) (16 : Int32))))])) _
    refine XS.i2l X8.here hx rfl (hb hby at_98) rfl ?_
    show Steps p.tables e below (T8.setTop (mkF m 99 #[.val (.long xd), .second, .val (.long xg), .second, .val (.int xo), .val (.int (nF xo)), .val (.int (digF xd (0 : Int32))), .val (.int (digF xd (1 : Int32))), .val (.int (digF xd (2 : Int32))), .val (.int (digF xd (3 : Int32))), .val (.int (digF xd (4 : Int32))), .val (.int (digF xd (5 : Int32))), .val (.int (digF xd (6 : Int32))), .val (.int (digF xd (7 : Int32))), .unset, .unset, .unset, .unset, .unset, .unset, .unset, .unset] [(.long (((48 : Int32) + (digF xd (3 : Int32))).toInt64)), (.long (((((48 : Int32) + (digF xd (0 : Int32))).toInt64) ||| (pcF (digF xd (1 : Int32)) (8 : Int32))) ||| (pcF (digF xd (2 : Int32)) (16 : Int32))))])) _
    refine XS.bipush X8.here hx rfl (hb hby at_99) ?_
    show Steps p.tables e below (T8.setTop (mkF m 101 #[.val (.long xd), .second, .val (.long xg), .second, .val (.int xo), .val (.int (nF xo)), .val (.int (digF xd (0 : Int32))), .val (.int (digF xd (1 : Int32))), .val (.int (digF xd (2 : Int32))), .val (.int (digF xd (3 : Int32))), .val (.int (digF xd (4 : Int32))), .val (.int (digF xd (5 : Int32))), .val (.int (digF xd (6 : Int32))), .val (.int (digF xd (7 : Int32))), .unset, .unset, .unset, .unset, .unset, .unset, .unset, .unset] [(.int (24 : Int32)), (.long (((48 : Int32) + (digF xd (3 : Int32))).toInt64)), (.long (((((48 : Int32) + (digF xd (0 : Int32))).toInt64) ||| (pcF (digF xd (1 : Int32)) (8 : Int32))) ||| (pcF (digF xd (2 : Int32)) (16 : Int32))))])) _
    refine XS.lshl X8.here hx rfl (hb hby at_101) rfl ?_
    show Steps p.tables e below (T8.setTop (mkF m 102 #[.val (.long xd), .second, .val (.long xg), .second, .val (.int xo), .val (.int (nF xo)), .val (.int (digF xd (0 : Int32))), .val (.int (digF xd (1 : Int32))), .val (.int (digF xd (2 : Int32))), .val (.int (digF xd (3 : Int32))), .val (.int (digF xd (4 : Int32))), .val (.int (digF xd (5 : Int32))), .val (.int (digF xd (6 : Int32))), .val (.int (digF xd (7 : Int32))), .unset, .unset, .unset, .unset, .unset, .unset, .unset, .unset] [(.long (pcF (digF xd (3 : Int32)) (24 : Int32))), (.long (((((48 : Int32) + (digF xd (0 : Int32))).toInt64) ||| (pcF (digF xd (1 : Int32)) (8 : Int32))) ||| (pcF (digF xd (2 : Int32)) (16 : Int32))))])) _
    refine XS.lor X8.here hx rfl (hb hby at_102) rfl ?_
    show Steps p.tables e below (T8.setTop (mkF m 103 #[.val (.long xd), .second, .val (.long xg), .second, .val (.int xo), .val (.int (nF xo)), .val (.int (digF xd (0 : Int32))), .val (.int (digF xd (1 : Int32))), .val (.int (digF xd (2 : Int32))), .val (.int (digF xd (3 : Int32))), .val (.int (digF xd (4 : Int32))), .val (.int (digF xd (5 : Int32))), .val (.int (digF xd (6 : Int32))), .val (.int (digF xd (7 : Int32))), .unset, .unset, .unset, .unset, .unset, .unset, .unset, .unset] [(.long ((((((48 : Int32) + (digF xd (0 : Int32))).toInt64) ||| (pcF (digF xd (1 : Int32)) (8 : Int32))) ||| (pcF (digF xd (2 : Int32)) (16 : Int32))) ||| (pcF (digF xd (3 : Int32)) (24 : Int32))))])) _
    refine XS.bipush X8.here hx rfl (hb hby at_103) ?_
    show Steps p.tables e below (T8.setTop (mkF m 105 #[.val (.long xd), .second, .val (.long xg), .second, .val (.int xo), .val (.int (nF xo)), .val (.int (digF xd (0 : Int32))), .val (.int (digF xd (1 : Int32))), .val (.int (digF xd (2 : Int32))), .val (.int (digF xd (3 : Int32))), .val (.int (digF xd (4 : Int32))), .val (.int (digF xd (5 : Int32))), .val (.int (digF xd (6 : Int32))), .val (.int (digF xd (7 : Int32))), .unset, .unset, .unset, .unset, .unset, .unset, .unset, .unset] [(.int (48 : Int32)), (.long ((((((48 : Int32) + (digF xd (0 : Int32))).toInt64) ||| (pcF (digF xd (1 : Int32)) (8 : Int32))) ||| (pcF (digF xd (2 : Int32)) (16 : Int32))) ||| (pcF (digF xd (3 : Int32)) (24 : Int32))))])) _
    refine XS.iload X8.here hx rfl (hb hby at_105) rfl ?_
    show Steps p.tables e below (T8.setTop (mkF m 107 #[.val (.long xd), .second, .val (.long xg), .second, .val (.int xo), .val (.int (nF xo)), .val (.int (digF xd (0 : Int32))), .val (.int (digF xd (1 : Int32))), .val (.int (digF xd (2 : Int32))), .val (.int (digF xd (3 : Int32))), .val (.int (digF xd (4 : Int32))), .val (.int (digF xd (5 : Int32))), .val (.int (digF xd (6 : Int32))), .val (.int (digF xd (7 : Int32))), .unset, .unset, .unset, .unset, .unset, .unset, .unset, .unset] [(.int (digF xd (4 : Int32))), (.int (48 : Int32)), (.long ((((((48 : Int32) + (digF xd (0 : Int32))).toInt64) ||| (pcF (digF xd (1 : Int32)) (8 : Int32))) ||| (pcF (digF xd (2 : Int32)) (16 : Int32))) ||| (pcF (digF xd (3 : Int32)) (24 : Int32))))])) _
    refine XS.iadd X8.here hx rfl (hb hby at_107) rfl ?_
    show Steps p.tables e below (T8.setTop (mkF m 108 #[.val (.long xd), .second, .val (.long xg), .second, .val (.int xo), .val (.int (nF xo)), .val (.int (digF xd (0 : Int32))), .val (.int (digF xd (1 : Int32))), .val (.int (digF xd (2 : Int32))), .val (.int (digF xd (3 : Int32))), .val (.int (digF xd (4 : Int32))), .val (.int (digF xd (5 : Int32))), .val (.int (digF xd (6 : Int32))), .val (.int (digF xd (7 : Int32))), .unset, .unset, .unset, .unset, .unset, .unset, .unset, .unset] [(.int ((48 : Int32) + (digF xd (4 : Int32)))), (.long ((((((48 : Int32) + (digF xd (0 : Int32))).toInt64) ||| (pcF (digF xd (1 : Int32)) (8 : Int32))) ||| (pcF (digF xd (2 : Int32)) (16 : Int32))) ||| (pcF (digF xd (3 : Int32)) (24 : Int32))))])) _
    refine XS.i2l X8.here hx rfl (hb hby at_108) rfl ?_
    show Steps p.tables e below (T8.setTop (mkF m 109 #[.val (.long xd), .second, .val (.long xg), .second, .val (.int xo), .val (.int (nF xo)), .val (.int (digF xd (0 : Int32))), .val (.int (digF xd (1 : Int32))), .val (.int (digF xd (2 : Int32))), .val (.int (digF xd (3 : Int32))), .val (.int (digF xd (4 : Int32))), .val (.int (digF xd (5 : Int32))), .val (.int (digF xd (6 : Int32))), .val (.int (digF xd (7 : Int32))), .unset, .unset, .unset, .unset, .unset, .unset, .unset, .unset] [(.long (((48 : Int32) + (digF xd (4 : Int32))).toInt64)), (.long ((((((48 : Int32) + (digF xd (0 : Int32))).toInt64) ||| (pcF (digF xd (1 : Int32)) (8 : Int32))) ||| (pcF (digF xd (2 : Int32)) (16 : Int32))) ||| (pcF (digF xd (3 : Int32)) (24 : Int32))))])) _
    refine XS.bipush X8.here hx rfl (hb hby at_109) ?_
    show Steps p.tables e below (T8.setTop (mkF m 111 #[.val (.long xd), .second, .val (.long xg), .second, .val (.int xo), .val (.int (nF xo)), .val (.int (digF xd (0 : Int32))), .val (.int (digF xd (1 : Int32))), .val (.int (digF xd (2 : Int32))), .val (.int (digF xd (3 : Int32))), .val (.int (digF xd (4 : Int32))), .val (.int (digF xd (5 : Int32))), .val (.int (digF xd (6 : Int32))), .val (.int (digF xd (7 : Int32))), .unset, .unset, .unset, .unset, .unset, .unset, .unset, .unset] [(.int (32 : Int32)), (.long (((48 : Int32) + (digF xd (4 : Int32))).toInt64)), (.long ((((((48 : Int32) + (digF xd (0 : Int32))).toInt64) ||| (pcF (digF xd (1 : Int32)) (8 : Int32))) ||| (pcF (digF xd (2 : Int32)) (16 : Int32))) ||| (pcF (digF xd (3 : Int32)) (24 : Int32))))])) _
    refine XS.lshl X8.here hx rfl (hb hby at_111) rfl ?_
    show Steps p.tables e below (T8.setTop (mkF m 112 #[.val (.long xd), .second, .val (.long xg), .second, .val (.int xo), .val (.int (nF xo)), .val (.int (digF xd (0 : Int32))), .val (.int (digF xd (1 : Int32))), .val (.int (digF xd (2 : Int32))), .val (.int (digF xd (3 : Int32))), .val (.int (digF xd (4 : Int32))), .val (.int (digF xd (5 : Int32))), .val (.int (digF xd (6 : Int32))), .val (.int (digF xd (7 : Int32))), .unset, .unset, .unset, .unset, .unset, .unset, .unset, .unset] [(.long (pcF (digF xd (4 : Int32)) (32 : Int32))), (.long ((((((48 : Int32) + (digF xd (0 : Int32))).toInt64) ||| (pcF (digF xd (1 : Int32)) (8 : Int32))) ||| (pcF (digF xd (2 : Int32)) (16 : Int32))) ||| (pcF (digF xd (3 : Int32)) (24 : Int32))))])) _
    refine XS.lor X8.here hx rfl (hb hby at_112) rfl ?_
    show Steps p.tables e below (T8.setTop (mkF m 113 #[.val (.long xd), .second, .val (.long xg), .second, .val (.int xo), .val (.int (nF xo)), .val (.int (digF xd (0 : Int32))), .val (.int (digF xd (1 : Int32))), .val (.int (digF xd (2 : Int32))), .val (.int (digF xd (3 : Int32))), .val (.int (digF xd (4 : Int32))), .val (.int (digF xd (5 : Int32))), .val (.int (digF xd (6 : Int32))), .val (.int (digF xd (7 : Int32))), .unset, .unset, .unset, .unset, .unset, .unset, .unset, .unset] [(.long (((((((48 : Int32) + (digF xd (0 : Int32))).toInt64) ||| (pcF (digF xd (1 : Int32)) (8 : Int32))) ||| (pcF (digF xd (2 : Int32)) (16 : Int32))) ||| (pcF (digF xd (3 : Int32)) (24 : Int32))) ||| (pcF (digF xd (4 : Int32)) (32 : Int32))))])) _
    refine XS.bipush X8.here hx rfl (hb hby at_113) ?_
    show Steps p.tables e below (T8.setTop (mkF m 115 #[.val (.long xd), .second, .val (.long xg), .second, .val (.int xo), .val (.int (nF xo)), .val (.int (digF xd (0 : Int32))), .val (.int (digF xd (1 : Int32))), .val (.int (digF xd (2 : Int32))), .val (.int (digF xd (3 : Int32))), .val (.int (digF xd (4 : Int32))), .val (.int (digF xd (5 : Int32))), .val (.int (digF xd (6 : Int32))), .val (.int (digF xd (7 : Int32))), .unset, .unset, .unset, .unset, .unset, .unset, .unset, .unset] [(.int (48 : Int32)), (.long (((((((48 : Int32) + (digF xd (0 : Int32))).toInt64) ||| (pcF (digF xd (1 : Int32)) (8 : Int32))) ||| (pcF (digF xd (2 : Int32)) (16 : Int32))) ||| (pcF (digF xd (3 : Int32)) (24 : Int32))) ||| (pcF (digF xd (4 : Int32)) (32 : Int32))))])) _
    refine XS.iload X8.here hx rfl (hb hby at_115) rfl ?_
    show Steps p.tables e below (T8.setTop (mkF m 117 #[.val (.long xd), .second, .val (.long xg), .second, .val (.int xo), .val (.int (nF xo)), .val (.int (digF xd (0 : Int32))), .val (.int (digF xd (1 : Int32))), .val (.int (digF xd (2 : Int32))), .val (.int (digF xd (3 : Int32))), .val (.int (digF xd (4 : Int32))), .val (.int (digF xd (5 : Int32))), .val (.int (digF xd (6 : Int32))), .val (.int (digF xd (7 : Int32))), .unset, .unset, .unset, .unset, .unset, .unset, .unset, .unset] [(.int (digF xd (5 : Int32))), (.int (48 : Int32)), (.long (((((((48 : Int32) + (digF xd (0 : Int32))).toInt64) ||| (pcF (digF xd (1 : Int32)) (8 : Int32))) ||| (pcF (digF xd (2 : Int32)) (16 : Int32))) ||| (pcF (digF xd (3 : Int32)) (24 : Int32))) ||| (pcF (digF xd (4 : Int32)) (32 : Int32))))])) _
    refine XS.iadd X8.here hx rfl (hb hby at_117) rfl ?_
    show Steps p.tables e below (T8.setTop (mkF m 118 #[.val (.long xd), .second, .val (.long xg), .second, .val (.int xo), .val (.int (nF xo)), .val (.int (digF xd (0 : Int32))), .val (.int (digF xd (1 : Int32))), .val (.int (digF xd (2 : Int32))), .val (.int (digF xd (3 : Int32))), .val (.int (digF xd (4 : Int32))), .val (.int (digF xd (5 : Int32))), .val (.int (digF xd (6 : Int32))), .val (.int (digF xd (7 : Int32))), .unset, .unset, .unset, .unset, .unset, .unset, .unset, .unset] [(.int ((48 : Int32) + (digF xd (5 : Int32)))), (.long (((((((48 : Int32) + (digF xd (0 : Int32))).toInt64) ||| (pcF (digF xd (1 : Int32)) (8 : Int32))) ||| (pcF (digF xd (2 : Int32)) (16 : Int32))) ||| (pcF (digF xd (3 : Int32)) (24 : Int32))) ||| (pcF (digF xd (4 : Int32)) (32 : Int32))))])) _
    refine XS.i2l X8.here hx rfl (hb hby at_118) rfl ?_
    show Steps p.tables e below (T8.setTop (mkF m 119 #[.val (.long xd), .second, .val (.long xg), .second, .val (.int xo), .val (.int (nF xo)), .val (.int (digF xd (0 : Int32))), .val (.int (digF xd (1 : Int32))), .val (.int (digF xd (2 : Int32))), .val (.int (digF xd (3 : Int32))), .val (.int (digF xd (4 : Int32))), .val (.int (digF xd (5 : Int32))), .val (.int (digF xd (6 : Int32))), .val (.int (digF xd (7 : Int32))), .unset, .unset, .unset, .unset, .unset, .unset, .unset, .unset] [(.long (((48 : Int32) + (digF xd (5 : Int32))).toInt64)), (.long (((((((48 : Int32) + (digF xd (0 : Int32))).toInt64) ||| (pcF (digF xd (1 : Int32)) (8 : Int32))) ||| (pcF (digF xd (2 : Int32)) (16 : Int32))) ||| (pcF (digF xd (3 : Int32)) (24 : Int32))) ||| (pcF (digF xd (4 : Int32)) (32 : Int32))))])) _
    refine XS.bipush X8.here hx rfl (hb hby at_119) ?_
    show Steps p.tables e below (T8.setTop (mkF m 121 #[.val (.long xd), .second, .val (.long xg), .second, .val (.int xo), .val (.int (nF xo)), .val (.int (digF xd (0 : Int32))), .val (.int (digF xd (1 : Int32))), .val (.int (digF xd (2 : Int32))), .val (.int (digF xd (3 : Int32))), .val (.int (digF xd (4 : Int32))), .val (.int (digF xd (5 : Int32))), .val (.int (digF xd (6 : Int32))), .val (.int (digF xd (7 : Int32))), .unset, .unset, .unset, .unset, .unset, .unset, .unset, .unset] [(.int (40 : Int32)), (.long (((48 : Int32) + (digF xd (5 : Int32))).toInt64)), (.long (((((((48 : Int32) + (digF xd (0 : Int32))).toInt64) ||| (pcF (digF xd (1 : Int32)) (8 : Int32))) ||| (pcF (digF xd (2 : Int32)) (16 : Int32))) ||| (pcF (digF xd (3 : Int32)) (24 : Int32))) ||| (pcF (digF xd (4 : Int32)) (32 : Int32))))])) _
    refine XS.lshl X8.here hx rfl (hb hby at_121) rfl ?_
    show Steps p.tables e below (T8.setTop (mkF m 122 #[.val (.long xd), .second, .val (.long xg), .second, .val (.int xo), .val (.int (nF xo)), .val (.int (digF xd (0 : Int32))), .val (.int (digF xd (1 : Int32))), .val (.int (digF xd (2 : Int32))), .val (.int (digF xd (3 : Int32))), .val (.int (digF xd (4 : Int32))), .val (.int (digF xd (5 : Int32))), .val (.int (digF xd (6 : Int32))), .val (.int (digF xd (7 : Int32))), .unset, .unset, .unset, .unset, .unset, .unset, .unset, .unset] [(.long (pcF (digF xd (5 : Int32)) (40 : Int32))), (.long (((((((48 : Int32) + (digF xd (0 : Int32))).toInt64) ||| (pcF (digF xd (1 : Int32)) (8 : Int32))) ||| (pcF (digF xd (2 : Int32)) (16 : Int32))) ||| (pcF (digF xd (3 : Int32)) (24 : Int32))) ||| (pcF (digF xd (4 : Int32)) (32 : Int32))))])) _
    refine XS.lor X8.here hx rfl (hb hby at_122) rfl ?_
    show Steps p.tables e below (T8.setTop (mkF m 123 #[.val (.long xd), .second, .val (.long xg), .second, .val (.int xo), .val (.int (nF xo)), .val (.int (digF xd (0 : Int32))), .val (.int (digF xd (1 : Int32))), .val (.int (digF xd (2 : Int32))), .val (.int (digF xd (3 : Int32))), .val (.int (digF xd (4 : Int32))), .val (.int (digF xd (5 : Int32))), .val (.int (digF xd (6 : Int32))), .val (.int (digF xd (7 : Int32))), .unset, .unset, .unset, .unset, .unset, .unset, .unset, .unset] [(.long ((((((((48 : Int32) + (digF xd (0 : Int32))).toInt64) ||| (pcF (digF xd (1 : Int32)) (8 : Int32))) ||| (pcF (digF xd (2 : Int32)) (16 : Int32))) ||| (pcF (digF xd (3 : Int32)) (24 : Int32))) ||| (pcF (digF xd (4 : Int32)) (32 : Int32))) ||| (pcF (digF xd (5 : Int32)) (40 : Int32))))])) _
    refine XS.bipush X8.here hx rfl (hb hby at_123) ?_
    show Steps p.tables e below (T8.setTop (mkF m 125 #[.val (.long xd), .second, .val (.long xg), .second, .val (.int xo), .val (.int (nF xo)), .val (.int (digF xd (0 : Int32))), .val (.int (digF xd (1 : Int32))), .val (.int (digF xd (2 : Int32))), .val (.int (digF xd (3 : Int32))), .val (.int (digF xd (4 : Int32))), .val (.int (digF xd (5 : Int32))), .val (.int (digF xd (6 : Int32))), .val (.int (digF xd (7 : Int32))), .unset, .unset, .unset, .unset, .unset, .unset, .unset, .unset] [(.int (48 : Int32)), (.long ((((((((48 : Int32) + (digF xd (0 : Int32))).toInt64) ||| (pcF (digF xd (1 : Int32)) (8 : Int32))) ||| (pcF (digF xd (2 : Int32)) (16 : Int32))) ||| (pcF (digF xd (3 : Int32)) (24 : Int32))) ||| (pcF (digF xd (4 : Int32)) (32 : Int32))) ||| (pcF (digF xd (5 : Int32)) (40 : Int32))))])) _
    refine XS.iload X8.here hx rfl (hb hby at_125) rfl ?_
    show Steps p.tables e below (T8.setTop (mkF m 127 #[.val (.long xd), .second, .val (.long xg), .second, .val (.int xo), .val (.int (nF xo)), .val (.int (digF xd (0 : Int32))), .val (.int (digF xd (1 : Int32))), .val (.int (digF xd (2 : Int32))), .val (.int (digF xd (3 : Int32))), .val (.int (digF xd (4 : Int32))), .val (.int (digF xd (5 : Int32))), .val (.int (digF xd (6 : Int32))), .val (.int (digF xd (7 : Int32))), .unset, .unset, .unset, .unset, .unset, .unset, .unset, .unset] [(.int (digF xd (6 : Int32))), (.int (48 : Int32)), (.long ((((((((48 : Int32) + (digF xd (0 : Int32))).toInt64) ||| (pcF (digF xd (1 : Int32)) (8 : Int32))) ||| (pcF (digF xd (2 : Int32)) (16 : Int32))) ||| (pcF (digF xd (3 : Int32)) (24 : Int32))) ||| (pcF (digF xd (4 : Int32)) (32 : Int32))) ||| (pcF (digF xd (5 : Int32)) (40 : Int32))))])) _
    refine XS.iadd X8.here hx rfl (hb hby at_127) rfl ?_
    show Steps p.tables e below (T8.setTop (mkF m 128 #[.val (.long xd), .second, .val (.long xg), .second, .val (.int xo), .val (.int (nF xo)), .val (.int (digF xd (0 : Int32))), .val (.int (digF xd (1 : Int32))), .val (.int (digF xd (2 : Int32))), .val (.int (digF xd (3 : Int32))), .val (.int (digF xd (4 : Int32))), .val (.int (digF xd (5 : Int32))), .val (.int (digF xd (6 : Int32))), .val (.int (digF xd (7 : Int32))), .unset, .unset, .unset, .unset, .unset, .unset, .unset, .unset] [(.int ((48 : Int32) + (digF xd (6 : Int32)))), (.long ((((((((48 : Int32) + (digF xd (0 : Int32))).toInt64) ||| (pcF (digF xd (1 : Int32)) (8 : Int32))) ||| (pcF (digF xd (2 : Int32)) (16 : Int32))) ||| (pcF (digF xd (3 : Int32)) (24 : Int32))) ||| (pcF (digF xd (4 : Int32)) (32 : Int32))) ||| (pcF (digF xd (5 : Int32)) (40 : Int32))))])) _
    refine XS.i2l X8.here hx rfl (hb hby at_128) rfl ?_
    show Steps p.tables e below (T8.setTop (mkF m 129 #[.val (.long xd), .second, .val (.long xg), .second, .val (.int xo), .val (.int (nF xo)), .val (.int (digF xd (0 : Int32))), .val (.int (digF xd (1 : Int32))), .val (.int (digF xd (2 : Int32))), .val (.int (digF xd (3 : Int32))), .val (.int (digF xd (4 : Int32))), .val (.int (digF xd (5 : Int32))), .val (.int (digF xd (6 : Int32))), .val (.int (digF xd (7 : Int32))), .unset, .unset, .unset, .unset, .unset, .unset, .unset, .unset] [(.long (((48 : Int32) + (digF xd (6 : Int32))).toInt64)), (.long ((((((((48 : Int32) + (digF xd (0 : Int32))).toInt64) ||| (pcF (digF xd (1 : Int32)) (8 : Int32))) ||| (pcF (digF xd (2 : Int32)) (16 : Int32))) ||| (pcF (digF xd (3 : Int32)) (24 : Int32))) ||| (pcF (digF xd (4 : Int32)) (32 : Int32))) ||| (pcF (digF xd (5 : Int32)) (40 : Int32))))])) _
    refine XS.bipush X8.here hx rfl (hb hby at_129) ?_
    show Steps p.tables e below (T8.setTop (mkF m 131 #[.val (.long xd), .second, .val (.long xg), .second, .val (.int xo), .val (.int (nF xo)), .val (.int (digF xd (0 : Int32))), .val (.int (digF xd (1 : Int32))), .val (.int (digF xd (2 : Int32))), .val (.int (digF xd (3 : Int32))), .val (.int (digF xd (4 : Int32))), .val (.int (digF xd (5 : Int32))), .val (.int (digF xd (6 : Int32))), .val (.int (digF xd (7 : Int32))), .unset, .unset, .unset, .unset, .unset, .unset, .unset, .unset] [(.int (48 : Int32)), (.long (((48 : Int32) + (digF xd (6 : Int32))).toInt64)), (.long ((((((((48 : Int32) + (digF xd (0 : Int32))).toInt64) ||| (pcF (digF xd (1 : Int32)) (8 : Int32))) ||| (pcF (digF xd (2 : Int32)) (16 : Int32))) ||| (pcF (digF xd (3 : Int32)) (24 : Int32))) ||| (pcF (digF xd (4 : Int32)) (32 : Int32))) ||| (pcF (digF xd (5 : Int32)) (40 : Int32))))])) _
    refine XS.lshl X8.here hx rfl (hb hby at_131) rfl ?_
    show Steps p.tables e below (T8.setTop (mkF m 132 #[.val (.long xd), .second, .val (.long xg), .second, .val (.int xo), .val (.int (nF xo)), .val (.int (digF xd (0 : Int32))), .val (.int (digF xd (1 : Int32))), .val (.int (digF xd (2 : Int32))), .val (.int (digF xd (3 : Int32))), .val (.int (digF xd (4 : Int32))), .val (.int (digF xd (5 : Int32))), .val (.int (digF xd (6 : Int32))), .val (.int (digF xd (7 : Int32))), .unset, .unset, .unset, .unset, .unset, .unset, .unset, .unset] [(.long (pcF (digF xd (6 : Int32)) (48 : Int32))), (.long ((((((((48 : Int32) + (digF xd (0 : Int32))).toInt64) ||| (pcF (digF xd (1 : Int32)) (8 : Int32))) ||| (pcF (digF xd (2 : Int32)) (16 : Int32))) ||| (pcF (digF xd (3 : Int32)) (24 : Int32))) ||| (pcF (digF xd (4 : Int32)) (32 : Int32))) ||| (pcF (digF xd (5 : Int32)) (40 : Int32))))])) _
    refine XS.lor X8.here hx rfl (hb hby at_132) rfl ?_
    show Steps p.tables e below (T8.setTop (mkF m 133 #[.val (.long xd), .second, .val (.long xg), .second, .val (.int xo), .val (.int (nF xo)), .val (.int (digF xd (0 : Int32))), .val (.int (digF xd (1 : Int32))), .val (.int (digF xd (2 : Int32))), .val (.int (digF xd (3 : Int32))), .val (.int (digF xd (4 : Int32))), .val (.int (digF xd (5 : Int32))), .val (.int (digF xd (6 : Int32))), .val (.int (digF xd (7 : Int32))), .unset, .unset, .unset, .unset, .unset, .unset, .unset, .unset] [(.long (((((((((48 : Int32) + (digF xd (0 : Int32))).toInt64) ||| (pcF (digF xd (1 : Int32)) (8 : Int32))) ||| (pcF (digF xd (2 : Int32)) (16 : Int32))) ||| (pcF (digF xd (3 : Int32)) (24 : Int32))) ||| (pcF (digF xd (4 : Int32)) (32 : Int32))) ||| (pcF (digF xd (5 : Int32)) (40 : Int32))) ||| (pcF (digF xd (6 : Int32)) (48 : Int32))))])) _
    refine XS.bipush X8.here hx rfl (hb hby at_133) ?_
    show Steps p.tables e below (T8.setTop (mkF m 135 #[.val (.long xd), .second, .val (.long xg), .second, .val (.int xo), .val (.int (nF xo)), .val (.int (digF xd (0 : Int32))), .val (.int (digF xd (1 : Int32))), .val (.int (digF xd (2 : Int32))), .val (.int (digF xd (3 : Int32))), .val (.int (digF xd (4 : Int32))), .val (.int (digF xd (5 : Int32))), .val (.int (digF xd (6 : Int32))), .val (.int (digF xd (7 : Int32))), .unset, .unset, .unset, .unset, .unset, .unset, .unset, .unset] [(.int (48 : Int32)), (.long (((((((((48 : Int32) + (digF xd (0 : Int32))).toInt64) ||| (pcF (digF xd (1 : Int32)) (8 : Int32))) ||| (pcF (digF xd (2 : Int32)) (16 : Int32))) ||| (pcF (digF xd (3 : Int32)) (24 : Int32))) ||| (pcF (digF xd (4 : Int32)) (32 : Int32))) ||| (pcF (digF xd (5 : Int32)) (40 : Int32))) ||| (pcF (digF xd (6 : Int32)) (48 : Int32))))])) _
    refine XS.iload X8.here hx rfl (hb hby at_135) rfl ?_
    show Steps p.tables e below (T8.setTop (mkF m 137 #[.val (.long xd), .second, .val (.long xg), .second, .val (.int xo), .val (.int (nF xo)), .val (.int (digF xd (0 : Int32))), .val (.int (digF xd (1 : Int32))), .val (.int (digF xd (2 : Int32))), .val (.int (digF xd (3 : Int32))), .val (.int (digF xd (4 : Int32))), .val (.int (digF xd (5 : Int32))), .val (.int (digF xd (6 : Int32))), .val (.int (digF xd (7 : Int32))), .unset, .unset, .unset, .unset, .unset, .unset, .unset, .unset] [(.int (digF xd (7 : Int32))), (.int (48 : Int32)), (.long (((((((((48 : Int32) + (digF xd (0 : Int32))).toInt64) ||| (pcF (digF xd (1 : Int32)) (8 : Int32))) ||| (pcF (digF xd (2 : Int32)) (16 : Int32))) ||| (pcF (digF xd (3 : Int32)) (24 : Int32))) ||| (pcF (digF xd (4 : Int32)) (32 : Int32))) ||| (pcF (digF xd (5 : Int32)) (40 : Int32))) ||| (pcF (digF xd (6 : Int32)) (48 : Int32))))])) _
    refine XS.iadd X8.here hx rfl (hb hby at_137) rfl ?_
    show Steps p.tables e below (T8.setTop (mkF m 138 #[.val (.long xd), .second, .val (.long xg), .second, .val (.int xo), .val (.int (nF xo)), .val (.int (digF xd (0 : Int32))), .val (.int (digF xd (1 : Int32))), .val (.int (digF xd (2 : Int32))), .val (.int (digF xd (3 : Int32))), .val (.int (digF xd (4 : Int32))), .val (.int (digF xd (5 : Int32))), .val (.int (digF xd (6 : Int32))), .val (.int (digF xd (7 : Int32))), .unset, .unset, .unset, .unset, .unset, .unset, .unset, .unset] [(.int ((48 : Int32) + (digF xd (7 : Int32)))), (.long (((((((((48 : Int32) + (digF xd (0 : Int32))).toInt64) ||| (pcF (digF xd (1 : Int32)) (8 : Int32))) ||| (pcF (digF xd (2 : Int32)) (16 : Int32))) ||| (pcF (digF xd (3 : Int32)) (24 : Int32))) ||| (pcF (digF xd (4 : Int32)) (32 : Int32))) ||| (pcF (digF xd (5 : Int32)) (40 : Int32))) ||| (pcF (digF xd (6 : Int32)) (48 : Int32))))])) _
    refine XS.i2l X8.here hx rfl (hb hby at_138) rfl ?_
    show Steps p.tables e below (T8.setTop (mkF m 139 #[.val (.long xd), .second, .val (.long xg), .second, .val (.int xo), .val (.int (nF xo)), .val (.int (digF xd (0 : Int32))), .val (.int (digF xd (1 : Int32))), .val (.int (digF xd (2 : Int32))), .val (.int (digF xd (3 : Int32))), .val (.int (digF xd (4 : Int32))), .val (.int (digF xd (5 : Int32))), .val (.int (digF xd (6 : Int32))), .val (.int (digF xd (7 : Int32))), .unset, .unset, .unset, .unset, .unset, .unset, .unset, .unset] [(.long (((48 : Int32) + (digF xd (7 : Int32))).toInt64)), (.long (((((((((48 : Int32) + (digF xd (0 : Int32))).toInt64) ||| (pcF (digF xd (1 : Int32)) (8 : Int32))) ||| (pcF (digF xd (2 : Int32)) (16 : Int32))) ||| (pcF (digF xd (3 : Int32)) (24 : Int32))) ||| (pcF (digF xd (4 : Int32)) (32 : Int32))) ||| (pcF (digF xd (5 : Int32)) (40 : Int32))) ||| (pcF (digF xd (6 : Int32)) (48 : Int32))))])) _
    refine XS.bipush X8.here hx rfl (hb hby at_139) ?_
    show Steps p.tables e below (T8.setTop (mkF m 141 #[.val (.long xd), .second, .val (.long xg), .second, .val (.int xo), .val (.int (nF xo)), .val (.int (digF xd (0 : Int32))), .val (.int (digF xd (1 : Int32))), .val (.int (digF xd (2 : Int32))), .val (.int (digF xd (3 : Int32))), .val (.int (digF xd (4 : Int32))), .val (.int (digF xd (5 : Int32))), .val (.int (digF xd (6 : Int32))), .val (.int (digF xd (7 : Int32))), .unset, .unset, .unset, .unset, .unset, .unset, .unset, .unset] [(.int (56 : Int32)), (.long (((48 : Int32) + (digF xd (7 : Int32))).toInt64)), (.long (((((((((48 : Int32) + (digF xd (0 : Int32))).toInt64) ||| (pcF (digF xd (1 : Int32)) (8 : Int32))) ||| (pcF (digF xd (2 : Int32)) (16 : Int32))) ||| (pcF (digF xd (3 : Int32)) (24 : Int32))) ||| (pcF (digF xd (4 : Int32)) (32 : Int32))) ||| (pcF (digF xd (5 : Int32)) (40 : Int32))) ||| (pcF (digF xd (6 : Int32)) (48 : Int32))))])) _
    refine XS.lshl X8.here hx rfl (hb hby at_141) rfl ?_
    show Steps p.tables e below (T8.setTop (mkF m 142 #[.val (.long xd), .second, .val (.long xg), .second, .val (.int xo), .val (.int (nF xo)), .val (.int (digF xd (0 : Int32))), .val (.int (digF xd (1 : Int32))), .val (.int (digF xd (2 : Int32))), .val (.int (digF xd (3 : Int32))), .val (.int (digF xd (4 : Int32))), .val (.int (digF xd (5 : Int32))), .val (.int (digF xd (6 : Int32))), .val (.int (digF xd (7 : Int32))), .unset, .unset, .unset, .unset, .unset, .unset, .unset, .unset] [(.long (pcF (digF xd (7 : Int32)) (56 : Int32))), (.long (((((((((48 : Int32) + (digF xd (0 : Int32))).toInt64) ||| (pcF (digF xd (1 : Int32)) (8 : Int32))) ||| (pcF (digF xd (2 : Int32)) (16 : Int32))) ||| (pcF (digF xd (3 : Int32)) (24 : Int32))) ||| (pcF (digF xd (4 : Int32)) (32 : Int32))) ||| (pcF (digF xd (5 : Int32)) (40 : Int32))) ||| (pcF (digF xd (6 : Int32)) (48 : Int32))))])) _
    refine XS.lor X8.here hx rfl (hb hby at_142) rfl ?_
    show Steps p.tables e below (T8.setTop (mkF m 143 #[.val (.long xd), .second, .val (.long xg), .second, .val (.int xo), .val (.int (nF xo)), .val (.int (digF xd (0 : Int32))), .val (.int (digF xd (1 : Int32))), .val (.int (digF xd (2 : Int32))), .val (.int (digF xd (3 : Int32))), .val (.int (digF xd (4 : Int32))), .val (.int (digF xd (5 : Int32))), .val (.int (digF xd (6 : Int32))), .val (.int (digF xd (7 : Int32))), .unset, .unset, .unset, .unset, .unset, .unset, .unset, .unset] [(.long ((((((((((48 : Int32) + (digF xd (0 : Int32))).toInt64) ||| (pcF (digF xd (1 : Int32)) (8 : Int32))) ||| (pcF (digF xd (2 : Int32)) (16 : Int32))) ||| (pcF (digF xd (3 : Int32)) (24 : Int32))) ||| (pcF (digF xd (4 : Int32)) (32 : Int32))) ||| (pcF (digF xd (5 : Int32)) (40 : Int32))) ||| (pcF (digF xd (6 : Int32)) (48 : Int32))) ||| (pcF (digF xd (7 : Int32)) (56 : Int32))))])) _
    refine XS.lstore X8.here hx rfl (hb hby at_143) rfl (l' := #[.val (.long xd), .second, .val (.long xg), .second, .val (.int xo), .val (.int (nF xo)), .val (.int (digF xd (0 : Int32))), .val (.int (digF xd (1 : Int32))), .val (.int (digF xd (2 : Int32))), .val (.int (digF xd (3 : Int32))), .val (.int (digF xd (4 : Int32))), .val (.int (digF xd (5 : Int32))), .val (.int (digF xd (6 : Int32))), .val (.int (digF xd (7 : Int32))), .val (.long (dwF xd)), .second, .unset, .unset, .unset, .unset, .unset, .unset]) rfl ?_
    show Steps p.tables e below (T8.setTop (mkF m 145 #[.val (.long xd), .second, .val (.long xg), .second, .val (.int xo), .val (.int (nF xo)), .val (.int (digF xd (0 : Int32))), .val (.int (digF xd (1 : Int32))), .val (.int (digF xd (2 : Int32))), .val (.int (digF xd (3 : Int32))), .val (.int (digF xd (4 : Int32))), .val (.int (digF xd (5 : Int32))), .val (.int (digF xd (6 : Int32))), .val (.int (digF xd (7 : Int32))), .val (.long (dwF xd)), .second, .unset, .unset, .unset, .unset, .unset, .unset] [])) _
    refine XS.iload X8.here hx rfl (hb hby at_145) rfl ?_
    show Steps p.tables e below (T8.setTop (mkF m 147 #[.val (.long xd), .second, .val (.long xg), .second, .val (.int xo), .val (.int (nF xo)), .val (.int (digF xd (0 : Int32))), .val (.int (digF xd (1 : Int32))), .val (.int (digF xd (2 : Int32))), .val (.int (digF xd (3 : Int32))), .val (.int (digF xd (4 : Int32))), .val (.int (digF xd (5 : Int32))), .val (.int (digF xd (6 : Int32))), .val (.int (digF xd (7 : Int32))), .val (.long (dwF xd)), .second, .unset, .unset, .unset, .unset, .unset, .unset] [(.int (nF xo))])) _
    refine XS.bipush X8.here hx rfl (hb hby at_147) ?_
    show Steps p.tables e below (T8.setTop (mkF m 149 #[.val (.long xd), .second, .val (.long xg), .second, .val (.int xo), .val (.int (nF xo)), .val (.int (digF xd (0 : Int32))), .val (.int (digF xd (1 : Int32))), .val (.int (digF xd (2 : Int32))), .val (.int (digF xd (3 : Int32))), .val (.int (digF xd (4 : Int32))), .val (.int (digF xd (5 : Int32))), .val (.int (digF xd (6 : Int32))), .val (.int (digF xd (7 : Int32))), .val (.long (dwF xd)), .second, .unset, .unset, .unset, .unset, .unset, .unset] [(.int (8 : Int32)), (.int (nF xo))])) _
    suffices J149 : Steps p.tables e below (T8.setTop (mkF m 167 #[.val (.long xd), .second, .val (.long xg), .second, .val (.int xo), .val (.int (nF xo)), .val (.int (digF xd (0 : Int32))), .val (.int (digF xd (1 : Int32))), .val (.int (digF xd (2 : Int32))), .val (.int (digF xd (3 : Int32))), .val (.int (digF xd (4 : Int32))), .val (.int (digF xd (5 : Int32))), .val (.int (digF xd (6 : Int32))), .val (.int (digF xd (7 : Int32))), .val (.long (dwF xd)), .second, .unset, .unset, .unset, .unset, .unset, .unset] [(.long (lowF (nF xo)))])) (T9.setFrames fs) by
      by_cases h149 : (nF xo) = (8 : Int32)
      · refine XS.icmpNo X8.here hx rfl (hb hby at_149) rfl (teq h149).2 ?_
        show Steps p.tables e below (T8.setTop (mkF m 152 #[.val (.long xd), .second, .val (.long xg), .second, .val (.int xo), .val (.int (nF xo)), .val (.int (digF xd (0 : Int32))), .val (.int (digF xd (1 : Int32))), .val (.int (digF xd (2 : Int32))), .val (.int (digF xd (3 : Int32))), .val (.int (digF xd (4 : Int32))), .val (.int (digF xd (5 : Int32))), .val (.int (digF xd (6 : Int32))), .val (.int (digF xd (7 : Int32))), .val (.long (dwF xd)), .second, .unset, .unset, .unset, .unset, .unset, .unset] [])) _
        refine X8.ldc2Long hx hown (mvT hZ (hw _ (List.mem_of_getElem? (i := 5) rfl))) (g := (mkF m 152 #[.val (.long xd), .second, .val (.long xg), .second, .val (.int xo), .val (.int (nF xo)), .val (.int (digF xd (0 : Int32))), .val (.int (digF xd (1 : Int32))), .val (.int (digF xd (2 : Int32))), .val (.int (digF xd (3 : Int32))), .val (.int (digF xd (4 : Int32))), .val (.int (digF xd (5 : Int32))), .val (.int (digF xd (6 : Int32))), .val (.int (digF xd (7 : Int32))), .val (.long (dwF xd)), .second, .unset, .unset, .unset, .unset, .unset, .unset] [])) rfl (hb hby at_152) _ ?_
        show Steps p.tables e below (T8.setTop (mkF m 155 #[.val (.long xd), .second, .val (.long xg), .second, .val (.int xo), .val (.int (nF xo)), .val (.int (digF xd (0 : Int32))), .val (.int (digF xd (1 : Int32))), .val (.int (digF xd (2 : Int32))), .val (.int (digF xd (3 : Int32))), .val (.int (digF xd (4 : Int32))), .val (.int (digF xd (5 : Int32))), .val (.int (digF xd (6 : Int32))), .val (.int (digF xd (7 : Int32))), .val (.long (dwF xd)), .second, .unset, .unset, .unset, .unset, .unset, .unset] [(.long (-1 : Int64))])) _
        refine XS.goto X8.here hx rfl (pc0 := 155) (pc' := 167) rfl (hb hby at_155) (by decide) (by decide) ?_
        show Steps p.tables e below (T8.setTop (mkF m 167 #[.val (.long xd), .second, .val (.long xg), .second, .val (.int xo), .val (.int (nF xo)), .val (.int (digF xd (0 : Int32))), .val (.int (digF xd (1 : Int32))), .val (.int (digF xd (2 : Int32))), .val (.int (digF xd (3 : Int32))), .val (.int (digF xd (4 : Int32))), .val (.int (digF xd (5 : Int32))), .val (.int (digF xd (6 : Int32))), .val (.int (digF xd (7 : Int32))), .val (.long (dwF xd)), .second, .unset, .unset, .unset, .unset, .unset, .unset] [(.long (-1 : Int64))])) _
        rw [show (lowF (nF xo)) = (-1 : Int64) from by simp only [lowF, h149, eq_self, if_true, if_false]] at J149
        exact J149
      · refine XS.icmpYes X8.here hx rfl (pc0 := 149) (pc' := 158) rfl (hb hby at_149) rfl (feq h149).2 (by decide) (by decide) ?_
        show Steps p.tables e below (T8.setTop (mkF m 158 #[.val (.long xd), .second, .val (.long xg), .second, .val (.int xo), .val (.int (nF xo)), .val (.int (digF xd (0 : Int32))), .val (.int (digF xd (1 : Int32))), .val (.int (digF xd (2 : Int32))), .val (.int (digF xd (3 : Int32))), .val (.int (digF xd (4 : Int32))), .val (.int (digF xd (5 : Int32))), .val (.int (digF xd (6 : Int32))), .val (.int (digF xd (7 : Int32))), .val (.long (dwF xd)), .second, .unset, .unset, .unset, .unset, .unset, .unset] [])) _
        refine XS.lconst X8.here hx rfl (hb hby at_158) ?_
        show Steps p.tables e below (T8.setTop (mkF m 159 #[.val (.long xd), .second, .val (.long xg), .second, .val (.int xo), .val (.int (nF xo)), .val (.int (digF xd (0 : Int32))), .val (.int (digF xd (1 : Int32))), .val (.int (digF xd (2 : Int32))), .val (.int (digF xd (3 : Int32))), .val (.int (digF xd (4 : Int32))), .val (.int (digF xd (5 : Int32))), .val (.int (digF xd (6 : Int32))), .val (.int (digF xd (7 : Int32))), .val (.long (dwF xd)), .second, .unset, .unset, .unset, .unset, .unset, .unset] [(.long (1 : Int64))])) _
        refine XS.bipush X8.here hx rfl (hb hby at_159) ?_
        show Steps p.tables e below (T8.setTop (mkF m 161 #[.val (.long xd), .second, .val (.long xg), .second, .val (.int xo), .val (.int (nF xo)), .val (.int (digF xd (0 : Int32))), .val (.int (digF xd (1 : Int32))), .val (.int (digF xd (2 : Int32))), .val (.int (digF xd (3 : Int32))), .val (.int (digF xd (4 : Int32))), .val (.int (digF xd (5 : Int32))), .val (.int (digF xd (6 : Int32))), .val (.int (digF xd (7 : Int32))), .val (.long (dwF xd)), .second, .unset, .unset, .unset, .unset, .unset, .unset] [(.int (8 : Int32)), (.long (1 : Int64))])) _
        refine XS.iload X8.here hx rfl (hb hby at_161) rfl ?_
        show Steps p.tables e below (T8.setTop (mkF m 163 #[.val (.long xd), .second, .val (.long xg), .second, .val (.int xo), .val (.int (nF xo)), .val (.int (digF xd (0 : Int32))), .val (.int (digF xd (1 : Int32))), .val (.int (digF xd (2 : Int32))), .val (.int (digF xd (3 : Int32))), .val (.int (digF xd (4 : Int32))), .val (.int (digF xd (5 : Int32))), .val (.int (digF xd (6 : Int32))), .val (.int (digF xd (7 : Int32))), .val (.long (dwF xd)), .second, .unset, .unset, .unset, .unset, .unset, .unset] [(.int (nF xo)), (.int (8 : Int32)), (.long (1 : Int64))])) _
        refine XS.imul X8.here hx rfl (hb hby at_163) rfl ?_
        show Steps p.tables e below (T8.setTop (mkF m 164 #[.val (.long xd), .second, .val (.long xg), .second, .val (.int xo), .val (.int (nF xo)), .val (.int (digF xd (0 : Int32))), .val (.int (digF xd (1 : Int32))), .val (.int (digF xd (2 : Int32))), .val (.int (digF xd (3 : Int32))), .val (.int (digF xd (4 : Int32))), .val (.int (digF xd (5 : Int32))), .val (.int (digF xd (6 : Int32))), .val (.int (digF xd (7 : Int32))), .val (.long (dwF xd)), .second, .unset, .unset, .unset, .unset, .unset, .unset] [(.int ((8 : Int32) * (nF xo))), (.long (1 : Int64))])) _
        refine XS.lshl X8.here hx rfl (hb hby at_164) rfl ?_
        show Steps p.tables e below (T8.setTop (mkF m 165 #[.val (.long xd), .second, .val (.long xg), .second, .val (.int xo), .val (.int (nF xo)), .val (.int (digF xd (0 : Int32))), .val (.int (digF xd (1 : Int32))), .val (.int (digF xd (2 : Int32))), .val (.int (digF xd (3 : Int32))), .val (.int (digF xd (4 : Int32))), .val (.int (digF xd (5 : Int32))), .val (.int (digF xd (6 : Int32))), .val (.int (digF xd (7 : Int32))), .val (.long (dwF xd)), .second, .unset, .unset, .unset, .unset, .unset, .unset] [(.long ((1 : Int64) <<< (((8 : Int32) * (nF xo)) &&& 0x3f).toInt64))])) _
        refine XS.lconst X8.here hx rfl (hb hby at_165) ?_
        show Steps p.tables e below (T8.setTop (mkF m 166 #[.val (.long xd), .second, .val (.long xg), .second, .val (.int xo), .val (.int (nF xo)), .val (.int (digF xd (0 : Int32))), .val (.int (digF xd (1 : Int32))), .val (.int (digF xd (2 : Int32))), .val (.int (digF xd (3 : Int32))), .val (.int (digF xd (4 : Int32))), .val (.int (digF xd (5 : Int32))), .val (.int (digF xd (6 : Int32))), .val (.int (digF xd (7 : Int32))), .val (.long (dwF xd)), .second, .unset, .unset, .unset, .unset, .unset, .unset] [(.long (1 : Int64)), (.long ((1 : Int64) <<< (((8 : Int32) * (nF xo)) &&& 0x3f).toInt64))])) _
        refine XS.lsub X8.here hx rfl (hb hby at_166) rfl ?_
        show Steps p.tables e below (T8.setTop (mkF m 167 #[.val (.long xd), .second, .val (.long xg), .second, .val (.int xo), .val (.int (nF xo)), .val (.int (digF xd (0 : Int32))), .val (.int (digF xd (1 : Int32))), .val (.int (digF xd (2 : Int32))), .val (.int (digF xd (3 : Int32))), .val (.int (digF xd (4 : Int32))), .val (.int (digF xd (5 : Int32))), .val (.int (digF xd (6 : Int32))), .val (.int (digF xd (7 : Int32))), .val (.long (dwF xd)), .second, .unset, .unset, .unset, .unset, .unset, .unset] [(.long (((1 : Int64) <<< (((8 : Int32) * (nF xo)) &&& 0x3f).toInt64) - (1 : Int64)))])) _
        rw [show (lowF (nF xo)) = (((1 : Int64) <<< (((8 : Int32) * (nF xo)) &&& 0x3f).toInt64) - (1 : Int64)) from by simp only [lowF, h149, eq_self, if_true, if_false]] at J149
        exact J149
    show Steps p.tables e below (T8.setTop (mkF m 167 #[.val (.long xd), .second, .val (.long xg), .second, .val (.int xo), .val (.int (nF xo)), .val (.int (digF xd (0 : Int32))), .val (.int (digF xd (1 : Int32))), .val (.int (digF xd (2 : Int32))), .val (.int (digF xd (3 : Int32))), .val (.int (digF xd (4 : Int32))), .val (.int (digF xd (5 : Int32))), .val (.int (digF xd (6 : Int32))), .val (.int (digF xd (7 : Int32))), .val (.long (dwF xd)), .second, .unset, .unset, .unset, .unset, .unset, .unset] [(.long (lowF (nF xo)))])) _
    refine XS.lstore X8.here hx rfl (hb hby at_167) rfl (l' := #[.val (.long xd), .second, .val (.long xg), .second, .val (.int xo), .val (.int (nF xo)), .val (.int (digF xd (0 : Int32))), .val (.int (digF xd (1 : Int32))), .val (.int (digF xd (2 : Int32))), .val (.int (digF xd (3 : Int32))), .val (.int (digF xd (4 : Int32))), .val (.int (digF xd (5 : Int32))), .val (.int (digF xd (6 : Int32))), .val (.int (digF xd (7 : Int32))), .val (.long (dwF xd)), .second, .val (.long (lowF (nF xo))), .second, .unset, .unset, .unset, .unset]) rfl ?_
    show Steps p.tables e below (T8.setTop (mkF m 169 #[.val (.long xd), .second, .val (.long xg), .second, .val (.int xo), .val (.int (nF xo)), .val (.int (digF xd (0 : Int32))), .val (.int (digF xd (1 : Int32))), .val (.int (digF xd (2 : Int32))), .val (.int (digF xd (3 : Int32))), .val (.int (digF xd (4 : Int32))), .val (.int (digF xd (5 : Int32))), .val (.int (digF xd (6 : Int32))), .val (.int (digF xd (7 : Int32))), .val (.long (dwF xd)), .second, .val (.long (lowF (nF xo))), .second, .unset, .unset, .unset, .unset] [])) _
    refine XS.lload X8.here hx rfl (hb hby at_169) rfl ?_
    show Steps p.tables e below (T8.setTop (mkF m 171 #[.val (.long xd), .second, .val (.long xg), .second, .val (.int xo), .val (.int (nF xo)), .val (.int (digF xd (0 : Int32))), .val (.int (digF xd (1 : Int32))), .val (.int (digF xd (2 : Int32))), .val (.int (digF xd (3 : Int32))), .val (.int (digF xd (4 : Int32))), .val (.int (digF xd (5 : Int32))), .val (.int (digF xd (6 : Int32))), .val (.int (digF xd (7 : Int32))), .val (.long (dwF xd)), .second, .val (.long (lowF (nF xo))), .second, .unset, .unset, .unset, .unset] [(.long (dwF xd))])) _
    refine XS.lload X8.here hx rfl (hb hby at_171) rfl ?_
    show Steps p.tables e below (T8.setTop (mkF m 173 #[.val (.long xd), .second, .val (.long xg), .second, .val (.int xo), .val (.int (nF xo)), .val (.int (digF xd (0 : Int32))), .val (.int (digF xd (1 : Int32))), .val (.int (digF xd (2 : Int32))), .val (.int (digF xd (3 : Int32))), .val (.int (digF xd (4 : Int32))), .val (.int (digF xd (5 : Int32))), .val (.int (digF xd (6 : Int32))), .val (.int (digF xd (7 : Int32))), .val (.long (dwF xd)), .second, .val (.long (lowF (nF xo))), .second, .unset, .unset, .unset, .unset] [(.long (lowF (nF xo))), (.long (dwF xd))])) _
    refine XS.land X8.here hx rfl (hb hby at_173) rfl ?_
    show Steps p.tables e below (T8.setTop (mkF m 174 #[.val (.long xd), .second, .val (.long xg), .second, .val (.int xo), .val (.int (nF xo)), .val (.int (digF xd (0 : Int32))), .val (.int (digF xd (1 : Int32))), .val (.int (digF xd (2 : Int32))), .val (.int (digF xd (3 : Int32))), .val (.int (digF xd (4 : Int32))), .val (.int (digF xd (5 : Int32))), .val (.int (digF xd (6 : Int32))), .val (.int (digF xd (7 : Int32))), .val (.long (dwF xd)), .second, .val (.long (lowF (nF xo))), .second, .unset, .unset, .unset, .unset] [(.long ((dwF xd) &&& (lowF (nF xo))))])) _
    refine XS.lloadN X8.here hx rfl (hb hby at_174) rfl ?_
    show Steps p.tables e below (T8.setTop (mkF m 175 #[.val (.long xd), .second, .val (.long xg), .second, .val (.int xo), .val (.int (nF xo)), .val (.int (digF xd (0 : Int32))), .val (.int (digF xd (1 : Int32))), .val (.int (digF xd (2 : Int32))), .val (.int (digF xd (3 : Int32))), .val (.int (digF xd (4 : Int32))), .val (.int (digF xd (5 : Int32))), .val (.int (digF xd (6 : Int32))), .val (.int (digF xd (7 : Int32))), .val (.long (dwF xd)), .second, .val (.long (lowF (nF xo))), .second, .unset, .unset, .unset, .unset] [(.long xg), (.long ((dwF xd) &&& (lowF (nF xo))))])) _
    refine XS.lload X8.here hx rfl (hb hby at_175) rfl ?_
    show Steps p.tables e below (T8.setTop (mkF m 177 #[.val (.long xd), .second, .val (.long xg), .second, .val (.int xo), .val (.int (nF xo)), .val (.int (digF xd (0 : Int32))), .val (.int (digF xd (1 : Int32))), .val (.int (digF xd (2 : Int32))), .val (.int (digF xd (3 : Int32))), .val (.int (digF xd (4 : Int32))), .val (.int (digF xd (5 : Int32))), .val (.int (digF xd (6 : Int32))), .val (.int (digF xd (7 : Int32))), .val (.long (dwF xd)), .second, .val (.long (lowF (nF xo))), .second, .unset, .unset, .unset, .unset] [(.long (lowF (nF xo))), (.long xg), (.long ((dwF xd) &&& (lowF (nF xo))))])) _
    refine X8.ldc2Long hx hown (mvT hZ (hw _ (List.mem_of_getElem? (i := 5) rfl))) (g := (mkF m 177 #[.val (.long xd), .second, .val (.long xg), .second, .val (.int xo), .val (.int (nF xo)), .val (.int (digF xd (0 : Int32))), .val (.int (digF xd (1 : Int32))), .val (.int (digF xd (2 : Int32))), .val (.int (digF xd (3 : Int32))), .val (.int (digF xd (4 : Int32))), .val (.int (digF xd (5 : Int32))), .val (.int (digF xd (6 : Int32))), .val (.int (digF xd (7 : Int32))), .val (.long (dwF xd)), .second, .val (.long (lowF (nF xo))), .second, .unset, .unset, .unset, .unset] [(.long (lowF (nF xo))), (.long xg), (.long ((dwF xd) &&& (lowF (nF xo))))])) rfl (hb hby at_177) _ ?_
    show Steps p.tables e below (T8.setTop (mkF m 180 #[.val (.long xd), .second, .val (.long xg), .second, .val (.int xo), .val (.int (nF xo)), .val (.int (digF xd (0 : Int32))), .val (.int (digF xd (1 : Int32))), .val (.int (digF xd (2 : Int32))), .val (.int (digF xd (3 : Int32))), .val (.int (digF xd (4 : Int32))), .val (.int (digF xd (5 : Int32))), .val (.int (digF xd (6 : Int32))), .val (.int (digF xd (7 : Int32))), .val (.long (dwF xd)), .second, .val (.long (lowF (nF xo))), .second, .unset, .unset, .unset, .unset] [(.long (-1 : Int64)), (.long (lowF (nF xo))), (.long xg), (.long ((dwF xd) &&& (lowF (nF xo))))])) _
    refine XS.lxor X8.here hx rfl (hb hby at_180) rfl ?_
    show Steps p.tables e below (T8.setTop (mkF m 181 #[.val (.long xd), .second, .val (.long xg), .second, .val (.int xo), .val (.int (nF xo)), .val (.int (digF xd (0 : Int32))), .val (.int (digF xd (1 : Int32))), .val (.int (digF xd (2 : Int32))), .val (.int (digF xd (3 : Int32))), .val (.int (digF xd (4 : Int32))), .val (.int (digF xd (5 : Int32))), .val (.int (digF xd (6 : Int32))), .val (.int (digF xd (7 : Int32))), .val (.long (dwF xd)), .second, .val (.long (lowF (nF xo))), .second, .unset, .unset, .unset, .unset] [(.long ((lowF (nF xo)) ^^^ (-1 : Int64))), (.long xg), (.long ((dwF xd) &&& (lowF (nF xo))))])) _
    refine XS.land X8.here hx rfl (hb hby at_181) rfl ?_
    show Steps p.tables e below (T8.setTop (mkF m 182 #[.val (.long xd), .second, .val (.long xg), .second, .val (.int xo), .val (.int (nF xo)), .val (.int (digF xd (0 : Int32))), .val (.int (digF xd (1 : Int32))), .val (.int (digF xd (2 : Int32))), .val (.int (digF xd (3 : Int32))), .val (.int (digF xd (4 : Int32))), .val (.int (digF xd (5 : Int32))), .val (.int (digF xd (6 : Int32))), .val (.int (digF xd (7 : Int32))), .val (.long (dwF xd)), .second, .val (.long (lowF (nF xo))), .second, .unset, .unset, .unset, .unset] [(.long (xg &&& ((lowF (nF xo)) ^^^ (-1 : Int64)))), (.long ((dwF xd) &&& (lowF (nF xo))))])) _
    refine XS.lor X8.here hx rfl (hb hby at_182) rfl ?_
    show Steps p.tables e below (T8.setTop (mkF m 183 #[.val (.long xd), .second, .val (.long xg), .second, .val (.int xo), .val (.int (nF xo)), .val (.int (digF xd (0 : Int32))), .val (.int (digF xd (1 : Int32))), .val (.int (digF xd (2 : Int32))), .val (.int (digF xd (3 : Int32))), .val (.int (digF xd (4 : Int32))), .val (.int (digF xd (5 : Int32))), .val (.int (digF xd (6 : Int32))), .val (.int (digF xd (7 : Int32))), .val (.long (dwF xd)), .second, .val (.long (lowF (nF xo))), .second, .unset, .unset, .unset, .unset] [(.long (((dwF xd) &&& (lowF (nF xo))) ||| (xg &&& ((lowF (nF xo)) ^^^ (-1 : Int64)))))])) _
    refine XS.lstore X8.here hx rfl (hb hby at_183) rfl (l' := #[.val (.long xd), .second, .val (.long xg), .second, .val (.int xo), .val (.int (nF xo)), .val (.int (digF xd (0 : Int32))), .val (.int (digF xd (1 : Int32))), .val (.int (digF xd (2 : Int32))), .val (.int (digF xd (3 : Int32))), .val (.int (digF xd (4 : Int32))), .val (.int (digF xd (5 : Int32))), .val (.int (digF xd (6 : Int32))), .val (.int (digF xd (7 : Int32))), .val (.long (dwF xd)), .second, .val (.long (lowF (nF xo))), .second, .val (.long (wordF xd xg (nF xo))), .second, .unset, .unset]) rfl ?_
    show Steps p.tables e below (T8.setTop (mkF m 185 #[.val (.long xd), .second, .val (.long xg), .second, .val (.int xo), .val (.int (nF xo)), .val (.int (digF xd (0 : Int32))), .val (.int (digF xd (1 : Int32))), .val (.int (digF xd (2 : Int32))), .val (.int (digF xd (3 : Int32))), .val (.int (digF xd (4 : Int32))), .val (.int (digF xd (5 : Int32))), .val (.int (digF xd (6 : Int32))), .val (.int (digF xd (7 : Int32))), .val (.long (dwF xd)), .second, .val (.long (lowF (nF xo))), .second, .val (.long (wordF xd xg (nF xo))), .second, .unset, .unset] [])) _
    refine XS.iload X8.here hx rfl (hb hby at_185) rfl ?_
    show Steps p.tables e below (T8.setTop (mkF m 187 #[.val (.long xd), .second, .val (.long xg), .second, .val (.int xo), .val (.int (nF xo)), .val (.int (digF xd (0 : Int32))), .val (.int (digF xd (1 : Int32))), .val (.int (digF xd (2 : Int32))), .val (.int (digF xd (3 : Int32))), .val (.int (digF xd (4 : Int32))), .val (.int (digF xd (5 : Int32))), .val (.int (digF xd (6 : Int32))), .val (.int (digF xd (7 : Int32))), .val (.long (dwF xd)), .second, .val (.long (lowF (nF xo))), .second, .val (.long (wordF xd xg (nF xo))), .second, .unset, .unset] [(.int (digF xd (0 : Int32)))])) _
    refine XS.i2l X8.here hx rfl (hb hby at_187) rfl ?_
    show Steps p.tables e below (T8.setTop (mkF m 188 #[.val (.long xd), .second, .val (.long xg), .second, .val (.int xo), .val (.int (nF xo)), .val (.int (digF xd (0 : Int32))), .val (.int (digF xd (1 : Int32))), .val (.int (digF xd (2 : Int32))), .val (.int (digF xd (3 : Int32))), .val (.int (digF xd (4 : Int32))), .val (.int (digF xd (5 : Int32))), .val (.int (digF xd (6 : Int32))), .val (.int (digF xd (7 : Int32))), .val (.long (dwF xd)), .second, .val (.long (lowF (nF xo))), .second, .val (.long (wordF xd xg (nF xo))), .second, .unset, .unset] [(.long ((digF xd (0 : Int32)).toInt64))])) _
    refine XS.lstore X8.here hx rfl (hb hby at_188) rfl (l' := #[.val (.long xd), .second, .val (.long xg), .second, .val (.int xo), .val (.int (nF xo)), .val (.int (digF xd (0 : Int32))), .val (.int (digF xd (1 : Int32))), .val (.int (digF xd (2 : Int32))), .val (.int (digF xd (3 : Int32))), .val (.int (digF xd (4 : Int32))), .val (.int (digF xd (5 : Int32))), .val (.int (digF xd (6 : Int32))), .val (.int (digF xd (7 : Int32))), .val (.long (dwF xd)), .second, .val (.long (lowF (nF xo))), .second, .val (.long (wordF xd xg (nF xo))), .second, .val (.long (e0F xd)), .second]) rfl ?_
    show Steps p.tables e below (T8.setTop (mkF m 190 #[.val (.long xd), .second, .val (.long xg), .second, .val (.int xo), .val (.int (nF xo)), .val (.int (digF xd (0 : Int32))), .val (.int (digF xd (1 : Int32))), .val (.int (digF xd (2 : Int32))), .val (.int (digF xd (3 : Int32))), .val (.int (digF xd (4 : Int32))), .val (.int (digF xd (5 : Int32))), .val (.int (digF xd (6 : Int32))), .val (.int (digF xd (7 : Int32))), .val (.long (dwF xd)), .second, .val (.long (lowF (nF xo))), .second, .val (.long (wordF xd xg (nF xo))), .second, .val (.long (e0F xd)), .second] [])) _
    refine XS.iload X8.here hx rfl (hb hby at_190) rfl ?_
    show Steps p.tables e below (T8.setTop (mkF m 192 #[.val (.long xd), .second, .val (.long xg), .second, .val (.int xo), .val (.int (nF xo)), .val (.int (digF xd (0 : Int32))), .val (.int (digF xd (1 : Int32))), .val (.int (digF xd (2 : Int32))), .val (.int (digF xd (3 : Int32))), .val (.int (digF xd (4 : Int32))), .val (.int (digF xd (5 : Int32))), .val (.int (digF xd (6 : Int32))), .val (.int (digF xd (7 : Int32))), .val (.long (dwF xd)), .second, .val (.long (lowF (nF xo))), .second, .val (.long (wordF xd xg (nF xo))), .second, .val (.long (e0F xd)), .second] [(.int (nF xo))])) _
    refine XS.iconst X8.here hx rfl (hb hby at_192) ?_
    show Steps p.tables e below (T8.setTop (mkF m 193 #[.val (.long xd), .second, .val (.long xg), .second, .val (.int xo), .val (.int (nF xo)), .val (.int (digF xd (0 : Int32))), .val (.int (digF xd (1 : Int32))), .val (.int (digF xd (2 : Int32))), .val (.int (digF xd (3 : Int32))), .val (.int (digF xd (4 : Int32))), .val (.int (digF xd (5 : Int32))), .val (.int (digF xd (6 : Int32))), .val (.int (digF xd (7 : Int32))), .val (.long (dwF xd)), .second, .val (.long (lowF (nF xo))), .second, .val (.long (wordF xd xg (nF xo))), .second, .val (.long (e0F xd)), .second] [(.int (1 : Int32)), (.int (nF xo))])) _
    suffices J193 : Steps p.tables e below (T8.setTop (mkF m 208 #[.val (.long xd), .second, .val (.long xg), .second, .val (.int xo), .val (.int (nF xo)), .val (.int (digF xd (0 : Int32))), .val (.int (digF xd (1 : Int32))), .val (.int (digF xd (2 : Int32))), .val (.int (digF xd (3 : Int32))), .val (.int (digF xd (4 : Int32))), .val (.int (digF xd (5 : Int32))), .val (.int (digF xd (6 : Int32))), .val (.int (digF xd (7 : Int32))), .val (.long (dwF xd)), .second, .val (.long (lowF (nF xo))), .second, .val (.long (wordF xd xg (nF xo))), .second, .val (.long (e1F xd (nF xo))), .second] [])) (T9.setFrames fs) by
      by_cases h193 : (1 : Int32) < (nF xo)
      · refine XS.icmpNo X8.here hx rfl (hb hby at_193) rfl (tlt h193).2.2.2 ?_
        show Steps p.tables e below (T8.setTop (mkF m 196 #[.val (.long xd), .second, .val (.long xg), .second, .val (.int xo), .val (.int (nF xo)), .val (.int (digF xd (0 : Int32))), .val (.int (digF xd (1 : Int32))), .val (.int (digF xd (2 : Int32))), .val (.int (digF xd (3 : Int32))), .val (.int (digF xd (4 : Int32))), .val (.int (digF xd (5 : Int32))), .val (.int (digF xd (6 : Int32))), .val (.int (digF xd (7 : Int32))), .val (.long (dwF xd)), .second, .val (.long (lowF (nF xo))), .second, .val (.long (wordF xd xg (nF xo))), .second, .val (.long (e0F xd)), .second] [])) _
        refine XS.lload X8.here hx rfl (hb hby at_196) rfl ?_
        show Steps p.tables e below (T8.setTop (mkF m 198 #[.val (.long xd), .second, .val (.long xg), .second, .val (.int xo), .val (.int (nF xo)), .val (.int (digF xd (0 : Int32))), .val (.int (digF xd (1 : Int32))), .val (.int (digF xd (2 : Int32))), .val (.int (digF xd (3 : Int32))), .val (.int (digF xd (4 : Int32))), .val (.int (digF xd (5 : Int32))), .val (.int (digF xd (6 : Int32))), .val (.int (digF xd (7 : Int32))), .val (.long (dwF xd)), .second, .val (.long (lowF (nF xo))), .second, .val (.long (wordF xd xg (nF xo))), .second, .val (.long (e0F xd)), .second] [(.long (e0F xd))])) _
        refine X8.ldc2Long hx hown (mvT hZ (hw _ (List.mem_of_getElem? (i := 16) rfl))) (g := (mkF m 198 #[.val (.long xd), .second, .val (.long xg), .second, .val (.int xo), .val (.int (nF xo)), .val (.int (digF xd (0 : Int32))), .val (.int (digF xd (1 : Int32))), .val (.int (digF xd (2 : Int32))), .val (.int (digF xd (3 : Int32))), .val (.int (digF xd (4 : Int32))), .val (.int (digF xd (5 : Int32))), .val (.int (digF xd (6 : Int32))), .val (.int (digF xd (7 : Int32))), .val (.long (dwF xd)), .second, .val (.long (lowF (nF xo))), .second, .val (.long (wordF xd xg (nF xo))), .second, .val (.long (e0F xd)), .second] [(.long (e0F xd))])) rfl (hb hby at_198) _ ?_
        show Steps p.tables e below (T8.setTop (mkF m 201 #[.val (.long xd), .second, .val (.long xg), .second, .val (.int xo), .val (.int (nF xo)), .val (.int (digF xd (0 : Int32))), .val (.int (digF xd (1 : Int32))), .val (.int (digF xd (2 : Int32))), .val (.int (digF xd (3 : Int32))), .val (.int (digF xd (4 : Int32))), .val (.int (digF xd (5 : Int32))), .val (.int (digF xd (6 : Int32))), .val (.int (digF xd (7 : Int32))), .val (.long (dwF xd)), .second, .val (.long (lowF (nF xo))), .second, .val (.long (wordF xd xg (nF xo))), .second, .val (.long (e0F xd)), .second] [(.long (10 : Int64)), (.long (e0F xd))])) _
        refine XS.lmul X8.here hx rfl (hb hby at_201) rfl ?_
        show Steps p.tables e below (T8.setTop (mkF m 202 #[.val (.long xd), .second, .val (.long xg), .second, .val (.int xo), .val (.int (nF xo)), .val (.int (digF xd (0 : Int32))), .val (.int (digF xd (1 : Int32))), .val (.int (digF xd (2 : Int32))), .val (.int (digF xd (3 : Int32))), .val (.int (digF xd (4 : Int32))), .val (.int (digF xd (5 : Int32))), .val (.int (digF xd (6 : Int32))), .val (.int (digF xd (7 : Int32))), .val (.long (dwF xd)), .second, .val (.long (lowF (nF xo))), .second, .val (.long (wordF xd xg (nF xo))), .second, .val (.long (e0F xd)), .second] [(.long ((e0F xd) * (10 : Int64)))])) _
        refine XS.iload X8.here hx rfl (hb hby at_202) rfl ?_
        show Steps p.tables e below (T8.setTop (mkF m 204 #[.val (.long xd), .second, .val (.long xg), .second, .val (.int xo), .val (.int (nF xo)), .val (.int (digF xd (0 : Int32))), .val (.int (digF xd (1 : Int32))), .val (.int (digF xd (2 : Int32))), .val (.int (digF xd (3 : Int32))), .val (.int (digF xd (4 : Int32))), .val (.int (digF xd (5 : Int32))), .val (.int (digF xd (6 : Int32))), .val (.int (digF xd (7 : Int32))), .val (.long (dwF xd)), .second, .val (.long (lowF (nF xo))), .second, .val (.long (wordF xd xg (nF xo))), .second, .val (.long (e0F xd)), .second] [(.int (digF xd (1 : Int32))), (.long ((e0F xd) * (10 : Int64)))])) _
        refine XS.i2l X8.here hx rfl (hb hby at_204) rfl ?_
        show Steps p.tables e below (T8.setTop (mkF m 205 #[.val (.long xd), .second, .val (.long xg), .second, .val (.int xo), .val (.int (nF xo)), .val (.int (digF xd (0 : Int32))), .val (.int (digF xd (1 : Int32))), .val (.int (digF xd (2 : Int32))), .val (.int (digF xd (3 : Int32))), .val (.int (digF xd (4 : Int32))), .val (.int (digF xd (5 : Int32))), .val (.int (digF xd (6 : Int32))), .val (.int (digF xd (7 : Int32))), .val (.long (dwF xd)), .second, .val (.long (lowF (nF xo))), .second, .val (.long (wordF xd xg (nF xo))), .second, .val (.long (e0F xd)), .second] [(.long ((digF xd (1 : Int32)).toInt64)), (.long ((e0F xd) * (10 : Int64)))])) _
        refine XS.ladd X8.here hx rfl (hb hby at_205) rfl ?_
        show Steps p.tables e below (T8.setTop (mkF m 206 #[.val (.long xd), .second, .val (.long xg), .second, .val (.int xo), .val (.int (nF xo)), .val (.int (digF xd (0 : Int32))), .val (.int (digF xd (1 : Int32))), .val (.int (digF xd (2 : Int32))), .val (.int (digF xd (3 : Int32))), .val (.int (digF xd (4 : Int32))), .val (.int (digF xd (5 : Int32))), .val (.int (digF xd (6 : Int32))), .val (.int (digF xd (7 : Int32))), .val (.long (dwF xd)), .second, .val (.long (lowF (nF xo))), .second, .val (.long (wordF xd xg (nF xo))), .second, .val (.long (e0F xd)), .second] [(.long (((e0F xd) * (10 : Int64)) + ((digF xd (1 : Int32)).toInt64)))])) _
        refine XS.lstore X8.here hx rfl (hb hby at_206) rfl (l' := #[.val (.long xd), .second, .val (.long xg), .second, .val (.int xo), .val (.int (nF xo)), .val (.int (digF xd (0 : Int32))), .val (.int (digF xd (1 : Int32))), .val (.int (digF xd (2 : Int32))), .val (.int (digF xd (3 : Int32))), .val (.int (digF xd (4 : Int32))), .val (.int (digF xd (5 : Int32))), .val (.int (digF xd (6 : Int32))), .val (.int (digF xd (7 : Int32))), .val (.long (dwF xd)), .second, .val (.long (lowF (nF xo))), .second, .val (.long (wordF xd xg (nF xo))), .second, .val (.long (upF (e0F xd) (digF xd (1 : Int32)))), .second]) rfl ?_
        show Steps p.tables e below (T8.setTop (mkF m 208 #[.val (.long xd), .second, .val (.long xg), .second, .val (.int xo), .val (.int (nF xo)), .val (.int (digF xd (0 : Int32))), .val (.int (digF xd (1 : Int32))), .val (.int (digF xd (2 : Int32))), .val (.int (digF xd (3 : Int32))), .val (.int (digF xd (4 : Int32))), .val (.int (digF xd (5 : Int32))), .val (.int (digF xd (6 : Int32))), .val (.int (digF xd (7 : Int32))), .val (.long (dwF xd)), .second, .val (.long (lowF (nF xo))), .second, .val (.long (wordF xd xg (nF xo))), .second, .val (.long (upF (e0F xd) (digF xd (1 : Int32)))), .second] [])) _
        rw [show (e1F xd (nF xo)) = (upF (e0F xd) (digF xd (1 : Int32))) from by simp only [e1F, h193, eq_self, if_true, if_false]] at J193
        exact J193
      · refine XS.icmpYes X8.here hx rfl (pc0 := 193) (pc' := 208) rfl (hb hby at_193) rfl (flt h193).2.2.2 (by decide) (by decide) ?_
        show Steps p.tables e below (T8.setTop (mkF m 208 #[.val (.long xd), .second, .val (.long xg), .second, .val (.int xo), .val (.int (nF xo)), .val (.int (digF xd (0 : Int32))), .val (.int (digF xd (1 : Int32))), .val (.int (digF xd (2 : Int32))), .val (.int (digF xd (3 : Int32))), .val (.int (digF xd (4 : Int32))), .val (.int (digF xd (5 : Int32))), .val (.int (digF xd (6 : Int32))), .val (.int (digF xd (7 : Int32))), .val (.long (dwF xd)), .second, .val (.long (lowF (nF xo))), .second, .val (.long (wordF xd xg (nF xo))), .second, .val (.long (e0F xd)), .second] [])) _
        rw [show (e1F xd (nF xo)) = (e0F xd) from by simp only [e1F, h193, eq_self, if_true, if_false]] at J193
        exact J193
    show Steps p.tables e below (T8.setTop (mkF m 208 #[.val (.long xd), .second, .val (.long xg), .second, .val (.int xo), .val (.int (nF xo)), .val (.int (digF xd (0 : Int32))), .val (.int (digF xd (1 : Int32))), .val (.int (digF xd (2 : Int32))), .val (.int (digF xd (3 : Int32))), .val (.int (digF xd (4 : Int32))), .val (.int (digF xd (5 : Int32))), .val (.int (digF xd (6 : Int32))), .val (.int (digF xd (7 : Int32))), .val (.long (dwF xd)), .second, .val (.long (lowF (nF xo))), .second, .val (.long (wordF xd xg (nF xo))), .second, .val (.long (e1F xd (nF xo))), .second] [])) _
    refine XS.iload X8.here hx rfl (hb hby at_208) rfl ?_
    show Steps p.tables e below (T8.setTop (mkF m 210 #[.val (.long xd), .second, .val (.long xg), .second, .val (.int xo), .val (.int (nF xo)), .val (.int (digF xd (0 : Int32))), .val (.int (digF xd (1 : Int32))), .val (.int (digF xd (2 : Int32))), .val (.int (digF xd (3 : Int32))), .val (.int (digF xd (4 : Int32))), .val (.int (digF xd (5 : Int32))), .val (.int (digF xd (6 : Int32))), .val (.int (digF xd (7 : Int32))), .val (.long (dwF xd)), .second, .val (.long (lowF (nF xo))), .second, .val (.long (wordF xd xg (nF xo))), .second, .val (.long (e1F xd (nF xo))), .second] [(.int (nF xo))])) _
    refine XS.iconst X8.here hx rfl (hb hby at_210) ?_
    show Steps p.tables e below (T8.setTop (mkF m 211 #[.val (.long xd), .second, .val (.long xg), .second, .val (.int xo), .val (.int (nF xo)), .val (.int (digF xd (0 : Int32))), .val (.int (digF xd (1 : Int32))), .val (.int (digF xd (2 : Int32))), .val (.int (digF xd (3 : Int32))), .val (.int (digF xd (4 : Int32))), .val (.int (digF xd (5 : Int32))), .val (.int (digF xd (6 : Int32))), .val (.int (digF xd (7 : Int32))), .val (.long (dwF xd)), .second, .val (.long (lowF (nF xo))), .second, .val (.long (wordF xd xg (nF xo))), .second, .val (.long (e1F xd (nF xo))), .second] [(.int (2 : Int32)), (.int (nF xo))])) _
    suffices J211 : Steps p.tables e below (T8.setTop (mkF m 226 #[.val (.long xd), .second, .val (.long xg), .second, .val (.int xo), .val (.int (nF xo)), .val (.int (digF xd (0 : Int32))), .val (.int (digF xd (1 : Int32))), .val (.int (digF xd (2 : Int32))), .val (.int (digF xd (3 : Int32))), .val (.int (digF xd (4 : Int32))), .val (.int (digF xd (5 : Int32))), .val (.int (digF xd (6 : Int32))), .val (.int (digF xd (7 : Int32))), .val (.long (dwF xd)), .second, .val (.long (lowF (nF xo))), .second, .val (.long (wordF xd xg (nF xo))), .second, .val (.long (e2F xd (nF xo))), .second] [])) (T9.setFrames fs) by
      by_cases h211 : (2 : Int32) < (nF xo)
      · refine XS.icmpNo X8.here hx rfl (hb hby at_211) rfl (tlt h211).2.2.2 ?_
        show Steps p.tables e below (T8.setTop (mkF m 214 #[.val (.long xd), .second, .val (.long xg), .second, .val (.int xo), .val (.int (nF xo)), .val (.int (digF xd (0 : Int32))), .val (.int (digF xd (1 : Int32))), .val (.int (digF xd (2 : Int32))), .val (.int (digF xd (3 : Int32))), .val (.int (digF xd (4 : Int32))), .val (.int (digF xd (5 : Int32))), .val (.int (digF xd (6 : Int32))), .val (.int (digF xd (7 : Int32))), .val (.long (dwF xd)), .second, .val (.long (lowF (nF xo))), .second, .val (.long (wordF xd xg (nF xo))), .second, .val (.long (e1F xd (nF xo))), .second] [])) _
        refine XS.lload X8.here hx rfl (hb hby at_214) rfl ?_
        show Steps p.tables e below (T8.setTop (mkF m 216 #[.val (.long xd), .second, .val (.long xg), .second, .val (.int xo), .val (.int (nF xo)), .val (.int (digF xd (0 : Int32))), .val (.int (digF xd (1 : Int32))), .val (.int (digF xd (2 : Int32))), .val (.int (digF xd (3 : Int32))), .val (.int (digF xd (4 : Int32))), .val (.int (digF xd (5 : Int32))), .val (.int (digF xd (6 : Int32))), .val (.int (digF xd (7 : Int32))), .val (.long (dwF xd)), .second, .val (.long (lowF (nF xo))), .second, .val (.long (wordF xd xg (nF xo))), .second, .val (.long (e1F xd (nF xo))), .second] [(.long (e1F xd (nF xo)))])) _
        refine X8.ldc2Long hx hown (mvT hZ (hw _ (List.mem_of_getElem? (i := 16) rfl))) (g := (mkF m 216 #[.val (.long xd), .second, .val (.long xg), .second, .val (.int xo), .val (.int (nF xo)), .val (.int (digF xd (0 : Int32))), .val (.int (digF xd (1 : Int32))), .val (.int (digF xd (2 : Int32))), .val (.int (digF xd (3 : Int32))), .val (.int (digF xd (4 : Int32))), .val (.int (digF xd (5 : Int32))), .val (.int (digF xd (6 : Int32))), .val (.int (digF xd (7 : Int32))), .val (.long (dwF xd)), .second, .val (.long (lowF (nF xo))), .second, .val (.long (wordF xd xg (nF xo))), .second, .val (.long (e1F xd (nF xo))), .second] [(.long (e1F xd (nF xo)))])) rfl (hb hby at_216) _ ?_
        show Steps p.tables e below (T8.setTop (mkF m 219 #[.val (.long xd), .second, .val (.long xg), .second, .val (.int xo), .val (.int (nF xo)), .val (.int (digF xd (0 : Int32))), .val (.int (digF xd (1 : Int32))), .val (.int (digF xd (2 : Int32))), .val (.int (digF xd (3 : Int32))), .val (.int (digF xd (4 : Int32))), .val (.int (digF xd (5 : Int32))), .val (.int (digF xd (6 : Int32))), .val (.int (digF xd (7 : Int32))), .val (.long (dwF xd)), .second, .val (.long (lowF (nF xo))), .second, .val (.long (wordF xd xg (nF xo))), .second, .val (.long (e1F xd (nF xo))), .second] [(.long (10 : Int64)), (.long (e1F xd (nF xo)))])) _
        refine XS.lmul X8.here hx rfl (hb hby at_219) rfl ?_
        show Steps p.tables e below (T8.setTop (mkF m 220 #[.val (.long xd), .second, .val (.long xg), .second, .val (.int xo), .val (.int (nF xo)), .val (.int (digF xd (0 : Int32))), .val (.int (digF xd (1 : Int32))), .val (.int (digF xd (2 : Int32))), .val (.int (digF xd (3 : Int32))), .val (.int (digF xd (4 : Int32))), .val (.int (digF xd (5 : Int32))), .val (.int (digF xd (6 : Int32))), .val (.int (digF xd (7 : Int32))), .val (.long (dwF xd)), .second, .val (.long (lowF (nF xo))), .second, .val (.long (wordF xd xg (nF xo))), .second, .val (.long (e1F xd (nF xo))), .second] [(.long ((e1F xd (nF xo)) * (10 : Int64)))])) _
        refine XS.iload X8.here hx rfl (hb hby at_220) rfl ?_
        show Steps p.tables e below (T8.setTop (mkF m 222 #[.val (.long xd), .second, .val (.long xg), .second, .val (.int xo), .val (.int (nF xo)), .val (.int (digF xd (0 : Int32))), .val (.int (digF xd (1 : Int32))), .val (.int (digF xd (2 : Int32))), .val (.int (digF xd (3 : Int32))), .val (.int (digF xd (4 : Int32))), .val (.int (digF xd (5 : Int32))), .val (.int (digF xd (6 : Int32))), .val (.int (digF xd (7 : Int32))), .val (.long (dwF xd)), .second, .val (.long (lowF (nF xo))), .second, .val (.long (wordF xd xg (nF xo))), .second, .val (.long (e1F xd (nF xo))), .second] [(.int (digF xd (2 : Int32))), (.long ((e1F xd (nF xo)) * (10 : Int64)))])) _
        refine XS.i2l X8.here hx rfl (hb hby at_222) rfl ?_
        show Steps p.tables e below (T8.setTop (mkF m 223 #[.val (.long xd), .second, .val (.long xg), .second, .val (.int xo), .val (.int (nF xo)), .val (.int (digF xd (0 : Int32))), .val (.int (digF xd (1 : Int32))), .val (.int (digF xd (2 : Int32))), .val (.int (digF xd (3 : Int32))), .val (.int (digF xd (4 : Int32))), .val (.int (digF xd (5 : Int32))), .val (.int (digF xd (6 : Int32))), .val (.int (digF xd (7 : Int32))), .val (.long (dwF xd)), .second, .val (.long (lowF (nF xo))), .second, .val (.long (wordF xd xg (nF xo))), .second, .val (.long (e1F xd (nF xo))), .second] [(.long ((digF xd (2 : Int32)).toInt64)), (.long ((e1F xd (nF xo)) * (10 : Int64)))])) _
        refine XS.ladd X8.here hx rfl (hb hby at_223) rfl ?_
        show Steps p.tables e below (T8.setTop (mkF m 224 #[.val (.long xd), .second, .val (.long xg), .second, .val (.int xo), .val (.int (nF xo)), .val (.int (digF xd (0 : Int32))), .val (.int (digF xd (1 : Int32))), .val (.int (digF xd (2 : Int32))), .val (.int (digF xd (3 : Int32))), .val (.int (digF xd (4 : Int32))), .val (.int (digF xd (5 : Int32))), .val (.int (digF xd (6 : Int32))), .val (.int (digF xd (7 : Int32))), .val (.long (dwF xd)), .second, .val (.long (lowF (nF xo))), .second, .val (.long (wordF xd xg (nF xo))), .second, .val (.long (e1F xd (nF xo))), .second] [(.long (((e1F xd (nF xo)) * (10 : Int64)) + ((digF xd (2 : Int32)).toInt64)))])) _
        refine XS.lstore X8.here hx rfl (hb hby at_224) rfl (l' := #[.val (.long xd), .second, .val (.long xg), .second, .val (.int xo), .val (.int (nF xo)), .val (.int (digF xd (0 : Int32))), .val (.int (digF xd (1 : Int32))), .val (.int (digF xd (2 : Int32))), .val (.int (digF xd (3 : Int32))), .val (.int (digF xd (4 : Int32))), .val (.int (digF xd (5 : Int32))), .val (.int (digF xd (6 : Int32))), .val (.int (digF xd (7 : Int32))), .val (.long (dwF xd)), .second, .val (.long (lowF (nF xo))), .second, .val (.long (wordF xd xg (nF xo))), .second, .val (.long (upF (e1F xd (nF xo)) (digF xd (2 : Int32)))), .second]) rfl ?_
        show Steps p.tables e below (T8.setTop (mkF m 226 #[.val (.long xd), .second, .val (.long xg), .second, .val (.int xo), .val (.int (nF xo)), .val (.int (digF xd (0 : Int32))), .val (.int (digF xd (1 : Int32))), .val (.int (digF xd (2 : Int32))), .val (.int (digF xd (3 : Int32))), .val (.int (digF xd (4 : Int32))), .val (.int (digF xd (5 : Int32))), .val (.int (digF xd (6 : Int32))), .val (.int (digF xd (7 : Int32))), .val (.long (dwF xd)), .second, .val (.long (lowF (nF xo))), .second, .val (.long (wordF xd xg (nF xo))), .second, .val (.long (upF (e1F xd (nF xo)) (digF xd (2 : Int32)))), .second] [])) _
        rw [show (e2F xd (nF xo)) = (upF (e1F xd (nF xo)) (digF xd (2 : Int32))) from by simp only [e2F, h211, eq_self, if_true, if_false]] at J211
        exact J211
      · refine XS.icmpYes X8.here hx rfl (pc0 := 211) (pc' := 226) rfl (hb hby at_211) rfl (flt h211).2.2.2 (by decide) (by decide) ?_
        show Steps p.tables e below (T8.setTop (mkF m 226 #[.val (.long xd), .second, .val (.long xg), .second, .val (.int xo), .val (.int (nF xo)), .val (.int (digF xd (0 : Int32))), .val (.int (digF xd (1 : Int32))), .val (.int (digF xd (2 : Int32))), .val (.int (digF xd (3 : Int32))), .val (.int (digF xd (4 : Int32))), .val (.int (digF xd (5 : Int32))), .val (.int (digF xd (6 : Int32))), .val (.int (digF xd (7 : Int32))), .val (.long (dwF xd)), .second, .val (.long (lowF (nF xo))), .second, .val (.long (wordF xd xg (nF xo))), .second, .val (.long (e1F xd (nF xo))), .second] [])) _
        rw [show (e2F xd (nF xo)) = (e1F xd (nF xo)) from by simp only [e2F, h211, eq_self, if_true, if_false]] at J211
        exact J211
    show Steps p.tables e below (T8.setTop (mkF m 226 #[.val (.long xd), .second, .val (.long xg), .second, .val (.int xo), .val (.int (nF xo)), .val (.int (digF xd (0 : Int32))), .val (.int (digF xd (1 : Int32))), .val (.int (digF xd (2 : Int32))), .val (.int (digF xd (3 : Int32))), .val (.int (digF xd (4 : Int32))), .val (.int (digF xd (5 : Int32))), .val (.int (digF xd (6 : Int32))), .val (.int (digF xd (7 : Int32))), .val (.long (dwF xd)), .second, .val (.long (lowF (nF xo))), .second, .val (.long (wordF xd xg (nF xo))), .second, .val (.long (e2F xd (nF xo))), .second] [])) _
    refine XS.iload X8.here hx rfl (hb hby at_226) rfl ?_
    show Steps p.tables e below (T8.setTop (mkF m 228 #[.val (.long xd), .second, .val (.long xg), .second, .val (.int xo), .val (.int (nF xo)), .val (.int (digF xd (0 : Int32))), .val (.int (digF xd (1 : Int32))), .val (.int (digF xd (2 : Int32))), .val (.int (digF xd (3 : Int32))), .val (.int (digF xd (4 : Int32))), .val (.int (digF xd (5 : Int32))), .val (.int (digF xd (6 : Int32))), .val (.int (digF xd (7 : Int32))), .val (.long (dwF xd)), .second, .val (.long (lowF (nF xo))), .second, .val (.long (wordF xd xg (nF xo))), .second, .val (.long (e2F xd (nF xo))), .second] [(.int (nF xo))])) _
    refine XS.iconst X8.here hx rfl (hb hby at_228) ?_
    show Steps p.tables e below (T8.setTop (mkF m 229 #[.val (.long xd), .second, .val (.long xg), .second, .val (.int xo), .val (.int (nF xo)), .val (.int (digF xd (0 : Int32))), .val (.int (digF xd (1 : Int32))), .val (.int (digF xd (2 : Int32))), .val (.int (digF xd (3 : Int32))), .val (.int (digF xd (4 : Int32))), .val (.int (digF xd (5 : Int32))), .val (.int (digF xd (6 : Int32))), .val (.int (digF xd (7 : Int32))), .val (.long (dwF xd)), .second, .val (.long (lowF (nF xo))), .second, .val (.long (wordF xd xg (nF xo))), .second, .val (.long (e2F xd (nF xo))), .second] [(.int (3 : Int32)), (.int (nF xo))])) _
    suffices J229 : Steps p.tables e below (T8.setTop (mkF m 244 #[.val (.long xd), .second, .val (.long xg), .second, .val (.int xo), .val (.int (nF xo)), .val (.int (digF xd (0 : Int32))), .val (.int (digF xd (1 : Int32))), .val (.int (digF xd (2 : Int32))), .val (.int (digF xd (3 : Int32))), .val (.int (digF xd (4 : Int32))), .val (.int (digF xd (5 : Int32))), .val (.int (digF xd (6 : Int32))), .val (.int (digF xd (7 : Int32))), .val (.long (dwF xd)), .second, .val (.long (lowF (nF xo))), .second, .val (.long (wordF xd xg (nF xo))), .second, .val (.long (e3F xd (nF xo))), .second] [])) (T9.setFrames fs) by
      by_cases h229 : (3 : Int32) < (nF xo)
      · refine XS.icmpNo X8.here hx rfl (hb hby at_229) rfl (tlt h229).2.2.2 ?_
        show Steps p.tables e below (T8.setTop (mkF m 232 #[.val (.long xd), .second, .val (.long xg), .second, .val (.int xo), .val (.int (nF xo)), .val (.int (digF xd (0 : Int32))), .val (.int (digF xd (1 : Int32))), .val (.int (digF xd (2 : Int32))), .val (.int (digF xd (3 : Int32))), .val (.int (digF xd (4 : Int32))), .val (.int (digF xd (5 : Int32))), .val (.int (digF xd (6 : Int32))), .val (.int (digF xd (7 : Int32))), .val (.long (dwF xd)), .second, .val (.long (lowF (nF xo))), .second, .val (.long (wordF xd xg (nF xo))), .second, .val (.long (e2F xd (nF xo))), .second] [])) _
        refine XS.lload X8.here hx rfl (hb hby at_232) rfl ?_
        show Steps p.tables e below (T8.setTop (mkF m 234 #[.val (.long xd), .second, .val (.long xg), .second, .val (.int xo), .val (.int (nF xo)), .val (.int (digF xd (0 : Int32))), .val (.int (digF xd (1 : Int32))), .val (.int (digF xd (2 : Int32))), .val (.int (digF xd (3 : Int32))), .val (.int (digF xd (4 : Int32))), .val (.int (digF xd (5 : Int32))), .val (.int (digF xd (6 : Int32))), .val (.int (digF xd (7 : Int32))), .val (.long (dwF xd)), .second, .val (.long (lowF (nF xo))), .second, .val (.long (wordF xd xg (nF xo))), .second, .val (.long (e2F xd (nF xo))), .second] [(.long (e2F xd (nF xo)))])) _
        refine X8.ldc2Long hx hown (mvT hZ (hw _ (List.mem_of_getElem? (i := 16) rfl))) (g := (mkF m 234 #[.val (.long xd), .second, .val (.long xg), .second, .val (.int xo), .val (.int (nF xo)), .val (.int (digF xd (0 : Int32))), .val (.int (digF xd (1 : Int32))), .val (.int (digF xd (2 : Int32))), .val (.int (digF xd (3 : Int32))), .val (.int (digF xd (4 : Int32))), .val (.int (digF xd (5 : Int32))), .val (.int (digF xd (6 : Int32))), .val (.int (digF xd (7 : Int32))), .val (.long (dwF xd)), .second, .val (.long (lowF (nF xo))), .second, .val (.long (wordF xd xg (nF xo))), .second, .val (.long (e2F xd (nF xo))), .second] [(.long (e2F xd (nF xo)))])) rfl (hb hby at_234) _ ?_
        show Steps p.tables e below (T8.setTop (mkF m 237 #[.val (.long xd), .second, .val (.long xg), .second, .val (.int xo), .val (.int (nF xo)), .val (.int (digF xd (0 : Int32))), .val (.int (digF xd (1 : Int32))), .val (.int (digF xd (2 : Int32))), .val (.int (digF xd (3 : Int32))), .val (.int (digF xd (4 : Int32))), .val (.int (digF xd (5 : Int32))), .val (.int (digF xd (6 : Int32))), .val (.int (digF xd (7 : Int32))), .val (.long (dwF xd)), .second, .val (.long (lowF (nF xo))), .second, .val (.long (wordF xd xg (nF xo))), .second, .val (.long (e2F xd (nF xo))), .second] [(.long (10 : Int64)), (.long (e2F xd (nF xo)))])) _
        refine XS.lmul X8.here hx rfl (hb hby at_237) rfl ?_
        show Steps p.tables e below (T8.setTop (mkF m 238 #[.val (.long xd), .second, .val (.long xg), .second, .val (.int xo), .val (.int (nF xo)), .val (.int (digF xd (0 : Int32))), .val (.int (digF xd (1 : Int32))), .val (.int (digF xd (2 : Int32))), .val (.int (digF xd (3 : Int32))), .val (.int (digF xd (4 : Int32))), .val (.int (digF xd (5 : Int32))), .val (.int (digF xd (6 : Int32))), .val (.int (digF xd (7 : Int32))), .val (.long (dwF xd)), .second, .val (.long (lowF (nF xo))), .second, .val (.long (wordF xd xg (nF xo))), .second, .val (.long (e2F xd (nF xo))), .second] [(.long ((e2F xd (nF xo)) * (10 : Int64)))])) _
        refine XS.iload X8.here hx rfl (hb hby at_238) rfl ?_
        show Steps p.tables e below (T8.setTop (mkF m 240 #[.val (.long xd), .second, .val (.long xg), .second, .val (.int xo), .val (.int (nF xo)), .val (.int (digF xd (0 : Int32))), .val (.int (digF xd (1 : Int32))), .val (.int (digF xd (2 : Int32))), .val (.int (digF xd (3 : Int32))), .val (.int (digF xd (4 : Int32))), .val (.int (digF xd (5 : Int32))), .val (.int (digF xd (6 : Int32))), .val (.int (digF xd (7 : Int32))), .val (.long (dwF xd)), .second, .val (.long (lowF (nF xo))), .second, .val (.long (wordF xd xg (nF xo))), .second, .val (.long (e2F xd (nF xo))), .second] [(.int (digF xd (3 : Int32))), (.long ((e2F xd (nF xo)) * (10 : Int64)))])) _
        refine XS.i2l X8.here hx rfl (hb hby at_240) rfl ?_
        show Steps p.tables e below (T8.setTop (mkF m 241 #[.val (.long xd), .second, .val (.long xg), .second, .val (.int xo), .val (.int (nF xo)), .val (.int (digF xd (0 : Int32))), .val (.int (digF xd (1 : Int32))), .val (.int (digF xd (2 : Int32))), .val (.int (digF xd (3 : Int32))), .val (.int (digF xd (4 : Int32))), .val (.int (digF xd (5 : Int32))), .val (.int (digF xd (6 : Int32))), .val (.int (digF xd (7 : Int32))), .val (.long (dwF xd)), .second, .val (.long (lowF (nF xo))), .second, .val (.long (wordF xd xg (nF xo))), .second, .val (.long (e2F xd (nF xo))), .second] [(.long ((digF xd (3 : Int32)).toInt64)), (.long ((e2F xd (nF xo)) * (10 : Int64)))])) _
        refine XS.ladd X8.here hx rfl (hb hby at_241) rfl ?_
        show Steps p.tables e below (T8.setTop (mkF m 242 #[.val (.long xd), .second, .val (.long xg), .second, .val (.int xo), .val (.int (nF xo)), .val (.int (digF xd (0 : Int32))), .val (.int (digF xd (1 : Int32))), .val (.int (digF xd (2 : Int32))), .val (.int (digF xd (3 : Int32))), .val (.int (digF xd (4 : Int32))), .val (.int (digF xd (5 : Int32))), .val (.int (digF xd (6 : Int32))), .val (.int (digF xd (7 : Int32))), .val (.long (dwF xd)), .second, .val (.long (lowF (nF xo))), .second, .val (.long (wordF xd xg (nF xo))), .second, .val (.long (e2F xd (nF xo))), .second] [(.long (((e2F xd (nF xo)) * (10 : Int64)) + ((digF xd (3 : Int32)).toInt64)))])) _
        refine XS.lstore X8.here hx rfl (hb hby at_242) rfl (l' := #[.val (.long xd), .second, .val (.long xg), .second, .val (.int xo), .val (.int (nF xo)), .val (.int (digF xd (0 : Int32))), .val (.int (digF xd (1 : Int32))), .val (.int (digF xd (2 : Int32))), .val (.int (digF xd (3 : Int32))), .val (.int (digF xd (4 : Int32))), .val (.int (digF xd (5 : Int32))), .val (.int (digF xd (6 : Int32))), .val (.int (digF xd (7 : Int32))), .val (.long (dwF xd)), .second, .val (.long (lowF (nF xo))), .second, .val (.long (wordF xd xg (nF xo))), .second, .val (.long (upF (e2F xd (nF xo)) (digF xd (3 : Int32)))), .second]) rfl ?_
        show Steps p.tables e below (T8.setTop (mkF m 244 #[.val (.long xd), .second, .val (.long xg), .second, .val (.int xo), .val (.int (nF xo)), .val (.int (digF xd (0 : Int32))), .val (.int (digF xd (1 : Int32))), .val (.int (digF xd (2 : Int32))), .val (.int (digF xd (3 : Int32))), .val (.int (digF xd (4 : Int32))), .val (.int (digF xd (5 : Int32))), .val (.int (digF xd (6 : Int32))), .val (.int (digF xd (7 : Int32))), .val (.long (dwF xd)), .second, .val (.long (lowF (nF xo))), .second, .val (.long (wordF xd xg (nF xo))), .second, .val (.long (upF (e2F xd (nF xo)) (digF xd (3 : Int32)))), .second] [])) _
        rw [show (e3F xd (nF xo)) = (upF (e2F xd (nF xo)) (digF xd (3 : Int32))) from by simp only [e3F, h229, eq_self, if_true, if_false]] at J229
        exact J229
      · refine XS.icmpYes X8.here hx rfl (pc0 := 229) (pc' := 244) rfl (hb hby at_229) rfl (flt h229).2.2.2 (by decide) (by decide) ?_
        show Steps p.tables e below (T8.setTop (mkF m 244 #[.val (.long xd), .second, .val (.long xg), .second, .val (.int xo), .val (.int (nF xo)), .val (.int (digF xd (0 : Int32))), .val (.int (digF xd (1 : Int32))), .val (.int (digF xd (2 : Int32))), .val (.int (digF xd (3 : Int32))), .val (.int (digF xd (4 : Int32))), .val (.int (digF xd (5 : Int32))), .val (.int (digF xd (6 : Int32))), .val (.int (digF xd (7 : Int32))), .val (.long (dwF xd)), .second, .val (.long (lowF (nF xo))), .second, .val (.long (wordF xd xg (nF xo))), .second, .val (.long (e2F xd (nF xo))), .second] [])) _
        rw [show (e3F xd (nF xo)) = (e2F xd (nF xo)) from by simp only [e3F, h229, eq_self, if_true, if_false]] at J229
        exact J229
    show Steps p.tables e below (T8.setTop (mkF m 244 #[.val (.long xd), .second, .val (.long xg), .second, .val (.int xo), .val (.int (nF xo)), .val (.int (digF xd (0 : Int32))), .val (.int (digF xd (1 : Int32))), .val (.int (digF xd (2 : Int32))), .val (.int (digF xd (3 : Int32))), .val (.int (digF xd (4 : Int32))), .val (.int (digF xd (5 : Int32))), .val (.int (digF xd (6 : Int32))), .val (.int (digF xd (7 : Int32))), .val (.long (dwF xd)), .second, .val (.long (lowF (nF xo))), .second, .val (.long (wordF xd xg (nF xo))), .second, .val (.long (e3F xd (nF xo))), .second] [])) _
    refine XS.iload X8.here hx rfl (hb hby at_244) rfl ?_
    show Steps p.tables e below (T8.setTop (mkF m 246 #[.val (.long xd), .second, .val (.long xg), .second, .val (.int xo), .val (.int (nF xo)), .val (.int (digF xd (0 : Int32))), .val (.int (digF xd (1 : Int32))), .val (.int (digF xd (2 : Int32))), .val (.int (digF xd (3 : Int32))), .val (.int (digF xd (4 : Int32))), .val (.int (digF xd (5 : Int32))), .val (.int (digF xd (6 : Int32))), .val (.int (digF xd (7 : Int32))), .val (.long (dwF xd)), .second, .val (.long (lowF (nF xo))), .second, .val (.long (wordF xd xg (nF xo))), .second, .val (.long (e3F xd (nF xo))), .second] [(.int (nF xo))])) _
    refine XS.iconst X8.here hx rfl (hb hby at_246) ?_
    show Steps p.tables e below (T8.setTop (mkF m 247 #[.val (.long xd), .second, .val (.long xg), .second, .val (.int xo), .val (.int (nF xo)), .val (.int (digF xd (0 : Int32))), .val (.int (digF xd (1 : Int32))), .val (.int (digF xd (2 : Int32))), .val (.int (digF xd (3 : Int32))), .val (.int (digF xd (4 : Int32))), .val (.int (digF xd (5 : Int32))), .val (.int (digF xd (6 : Int32))), .val (.int (digF xd (7 : Int32))), .val (.long (dwF xd)), .second, .val (.long (lowF (nF xo))), .second, .val (.long (wordF xd xg (nF xo))), .second, .val (.long (e3F xd (nF xo))), .second] [(.int (4 : Int32)), (.int (nF xo))])) _
    suffices J247 : Steps p.tables e below (T8.setTop (mkF m 262 #[.val (.long xd), .second, .val (.long xg), .second, .val (.int xo), .val (.int (nF xo)), .val (.int (digF xd (0 : Int32))), .val (.int (digF xd (1 : Int32))), .val (.int (digF xd (2 : Int32))), .val (.int (digF xd (3 : Int32))), .val (.int (digF xd (4 : Int32))), .val (.int (digF xd (5 : Int32))), .val (.int (digF xd (6 : Int32))), .val (.int (digF xd (7 : Int32))), .val (.long (dwF xd)), .second, .val (.long (lowF (nF xo))), .second, .val (.long (wordF xd xg (nF xo))), .second, .val (.long (e4F xd (nF xo))), .second] [])) (T9.setFrames fs) by
      by_cases h247 : (4 : Int32) < (nF xo)
      · refine XS.icmpNo X8.here hx rfl (hb hby at_247) rfl (tlt h247).2.2.2 ?_
        show Steps p.tables e below (T8.setTop (mkF m 250 #[.val (.long xd), .second, .val (.long xg), .second, .val (.int xo), .val (.int (nF xo)), .val (.int (digF xd (0 : Int32))), .val (.int (digF xd (1 : Int32))), .val (.int (digF xd (2 : Int32))), .val (.int (digF xd (3 : Int32))), .val (.int (digF xd (4 : Int32))), .val (.int (digF xd (5 : Int32))), .val (.int (digF xd (6 : Int32))), .val (.int (digF xd (7 : Int32))), .val (.long (dwF xd)), .second, .val (.long (lowF (nF xo))), .second, .val (.long (wordF xd xg (nF xo))), .second, .val (.long (e3F xd (nF xo))), .second] [])) _
        refine XS.lload X8.here hx rfl (hb hby at_250) rfl ?_
        show Steps p.tables e below (T8.setTop (mkF m 252 #[.val (.long xd), .second, .val (.long xg), .second, .val (.int xo), .val (.int (nF xo)), .val (.int (digF xd (0 : Int32))), .val (.int (digF xd (1 : Int32))), .val (.int (digF xd (2 : Int32))), .val (.int (digF xd (3 : Int32))), .val (.int (digF xd (4 : Int32))), .val (.int (digF xd (5 : Int32))), .val (.int (digF xd (6 : Int32))), .val (.int (digF xd (7 : Int32))), .val (.long (dwF xd)), .second, .val (.long (lowF (nF xo))), .second, .val (.long (wordF xd xg (nF xo))), .second, .val (.long (e3F xd (nF xo))), .second] [(.long (e3F xd (nF xo)))])) _
        refine X8.ldc2Long hx hown (mvT hZ (hw _ (List.mem_of_getElem? (i := 16) rfl))) (g := (mkF m 252 #[.val (.long xd), .second, .val (.long xg), .second, .val (.int xo), .val (.int (nF xo)), .val (.int (digF xd (0 : Int32))), .val (.int (digF xd (1 : Int32))), .val (.int (digF xd (2 : Int32))), .val (.int (digF xd (3 : Int32))), .val (.int (digF xd (4 : Int32))), .val (.int (digF xd (5 : Int32))), .val (.int (digF xd (6 : Int32))), .val (.int (digF xd (7 : Int32))), .val (.long (dwF xd)), .second, .val (.long (lowF (nF xo))), .second, .val (.long (wordF xd xg (nF xo))), .second, .val (.long (e3F xd (nF xo))), .second] [(.long (e3F xd (nF xo)))])) rfl (hb hby at_252) _ ?_
        show Steps p.tables e below (T8.setTop (mkF m 255 #[.val (.long xd), .second, .val (.long xg), .second, .val (.int xo), .val (.int (nF xo)), .val (.int (digF xd (0 : Int32))), .val (.int (digF xd (1 : Int32))), .val (.int (digF xd (2 : Int32))), .val (.int (digF xd (3 : Int32))), .val (.int (digF xd (4 : Int32))), .val (.int (digF xd (5 : Int32))), .val (.int (digF xd (6 : Int32))), .val (.int (digF xd (7 : Int32))), .val (.long (dwF xd)), .second, .val (.long (lowF (nF xo))), .second, .val (.long (wordF xd xg (nF xo))), .second, .val (.long (e3F xd (nF xo))), .second] [(.long (10 : Int64)), (.long (e3F xd (nF xo)))])) _
        refine XS.lmul X8.here hx rfl (hb hby at_255) rfl ?_
        show Steps p.tables e below (T8.setTop (mkF m 256 #[.val (.long xd), .second, .val (.long xg), .second, .val (.int xo), .val (.int (nF xo)), .val (.int (digF xd (0 : Int32))), .val (.int (digF xd (1 : Int32))), .val (.int (digF xd (2 : Int32))), .val (.int (digF xd (3 : Int32))), .val (.int (digF xd (4 : Int32))), .val (.int (digF xd (5 : Int32))), .val (.int (digF xd (6 : Int32))), .val (.int (digF xd (7 : Int32))), .val (.long (dwF xd)), .second, .val (.long (lowF (nF xo))), .second, .val (.long (wordF xd xg (nF xo))), .second, .val (.long (e3F xd (nF xo))), .second] [(.long ((e3F xd (nF xo)) * (10 : Int64)))])) _
        refine XS.iload X8.here hx rfl (hb hby at_256) rfl ?_
        show Steps p.tables e below (T8.setTop (mkF m 258 #[.val (.long xd), .second, .val (.long xg), .second, .val (.int xo), .val (.int (nF xo)), .val (.int (digF xd (0 : Int32))), .val (.int (digF xd (1 : Int32))), .val (.int (digF xd (2 : Int32))), .val (.int (digF xd (3 : Int32))), .val (.int (digF xd (4 : Int32))), .val (.int (digF xd (5 : Int32))), .val (.int (digF xd (6 : Int32))), .val (.int (digF xd (7 : Int32))), .val (.long (dwF xd)), .second, .val (.long (lowF (nF xo))), .second, .val (.long (wordF xd xg (nF xo))), .second, .val (.long (e3F xd (nF xo))), .second] [(.int (digF xd (4 : Int32))), (.long ((e3F xd (nF xo)) * (10 : Int64)))])) _
        refine XS.i2l X8.here hx rfl (hb hby at_258) rfl ?_
        show Steps p.tables e below (T8.setTop (mkF m 259 #[.val (.long xd), .second, .val (.long xg), .second, .val (.int xo), .val (.int (nF xo)), .val (.int (digF xd (0 : Int32))), .val (.int (digF xd (1 : Int32))), .val (.int (digF xd (2 : Int32))), .val (.int (digF xd (3 : Int32))), .val (.int (digF xd (4 : Int32))), .val (.int (digF xd (5 : Int32))), .val (.int (digF xd (6 : Int32))), .val (.int (digF xd (7 : Int32))), .val (.long (dwF xd)), .second, .val (.long (lowF (nF xo))), .second, .val (.long (wordF xd xg (nF xo))), .second, .val (.long (e3F xd (nF xo))), .second] [(.long ((digF xd (4 : Int32)).toInt64)), (.long ((e3F xd (nF xo)) * (10 : Int64)))])) _
        refine XS.ladd X8.here hx rfl (hb hby at_259) rfl ?_
        show Steps p.tables e below (T8.setTop (mkF m 260 #[.val (.long xd), .second, .val (.long xg), .second, .val (.int xo), .val (.int (nF xo)), .val (.int (digF xd (0 : Int32))), .val (.int (digF xd (1 : Int32))), .val (.int (digF xd (2 : Int32))), .val (.int (digF xd (3 : Int32))), .val (.int (digF xd (4 : Int32))), .val (.int (digF xd (5 : Int32))), .val (.int (digF xd (6 : Int32))), .val (.int (digF xd (7 : Int32))), .val (.long (dwF xd)), .second, .val (.long (lowF (nF xo))), .second, .val (.long (wordF xd xg (nF xo))), .second, .val (.long (e3F xd (nF xo))), .second] [(.long (((e3F xd (nF xo)) * (10 : Int64)) + ((digF xd (4 : Int32)).toInt64)))])) _
        refine XS.lstore X8.here hx rfl (hb hby at_260) rfl (l' := #[.val (.long xd), .second, .val (.long xg), .second, .val (.int xo), .val (.int (nF xo)), .val (.int (digF xd (0 : Int32))), .val (.int (digF xd (1 : Int32))), .val (.int (digF xd (2 : Int32))), .val (.int (digF xd (3 : Int32))), .val (.int (digF xd (4 : Int32))), .val (.int (digF xd (5 : Int32))), .val (.int (digF xd (6 : Int32))), .val (.int (digF xd (7 : Int32))), .val (.long (dwF xd)), .second, .val (.long (lowF (nF xo))), .second, .val (.long (wordF xd xg (nF xo))), .second, .val (.long (upF (e3F xd (nF xo)) (digF xd (4 : Int32)))), .second]) rfl ?_
        show Steps p.tables e below (T8.setTop (mkF m 262 #[.val (.long xd), .second, .val (.long xg), .second, .val (.int xo), .val (.int (nF xo)), .val (.int (digF xd (0 : Int32))), .val (.int (digF xd (1 : Int32))), .val (.int (digF xd (2 : Int32))), .val (.int (digF xd (3 : Int32))), .val (.int (digF xd (4 : Int32))), .val (.int (digF xd (5 : Int32))), .val (.int (digF xd (6 : Int32))), .val (.int (digF xd (7 : Int32))), .val (.long (dwF xd)), .second, .val (.long (lowF (nF xo))), .second, .val (.long (wordF xd xg (nF xo))), .second, .val (.long (upF (e3F xd (nF xo)) (digF xd (4 : Int32)))), .second] [])) _
        rw [show (e4F xd (nF xo)) = (upF (e3F xd (nF xo)) (digF xd (4 : Int32))) from by simp only [e4F, h247, eq_self, if_true, if_false]] at J247
        exact J247
      · refine XS.icmpYes X8.here hx rfl (pc0 := 247) (pc' := 262) rfl (hb hby at_247) rfl (flt h247).2.2.2 (by decide) (by decide) ?_
        show Steps p.tables e below (T8.setTop (mkF m 262 #[.val (.long xd), .second, .val (.long xg), .second, .val (.int xo), .val (.int (nF xo)), .val (.int (digF xd (0 : Int32))), .val (.int (digF xd (1 : Int32))), .val (.int (digF xd (2 : Int32))), .val (.int (digF xd (3 : Int32))), .val (.int (digF xd (4 : Int32))), .val (.int (digF xd (5 : Int32))), .val (.int (digF xd (6 : Int32))), .val (.int (digF xd (7 : Int32))), .val (.long (dwF xd)), .second, .val (.long (lowF (nF xo))), .second, .val (.long (wordF xd xg (nF xo))), .second, .val (.long (e3F xd (nF xo))), .second] [])) _
        rw [show (e4F xd (nF xo)) = (e3F xd (nF xo)) from by simp only [e4F, h247, eq_self, if_true, if_false]] at J247
        exact J247
    show Steps p.tables e below (T8.setTop (mkF m 262 #[.val (.long xd), .second, .val (.long xg), .second, .val (.int xo), .val (.int (nF xo)), .val (.int (digF xd (0 : Int32))), .val (.int (digF xd (1 : Int32))), .val (.int (digF xd (2 : Int32))), .val (.int (digF xd (3 : Int32))), .val (.int (digF xd (4 : Int32))), .val (.int (digF xd (5 : Int32))), .val (.int (digF xd (6 : Int32))), .val (.int (digF xd (7 : Int32))), .val (.long (dwF xd)), .second, .val (.long (lowF (nF xo))), .second, .val (.long (wordF xd xg (nF xo))), .second, .val (.long (e4F xd (nF xo))), .second] [])) _
    refine XS.iload X8.here hx rfl (hb hby at_262) rfl ?_
    show Steps p.tables e below (T8.setTop (mkF m 264 #[.val (.long xd), .second, .val (.long xg), .second, .val (.int xo), .val (.int (nF xo)), .val (.int (digF xd (0 : Int32))), .val (.int (digF xd (1 : Int32))), .val (.int (digF xd (2 : Int32))), .val (.int (digF xd (3 : Int32))), .val (.int (digF xd (4 : Int32))), .val (.int (digF xd (5 : Int32))), .val (.int (digF xd (6 : Int32))), .val (.int (digF xd (7 : Int32))), .val (.long (dwF xd)), .second, .val (.long (lowF (nF xo))), .second, .val (.long (wordF xd xg (nF xo))), .second, .val (.long (e4F xd (nF xo))), .second] [(.int (nF xo))])) _
    refine XS.iconst X8.here hx rfl (hb hby at_264) ?_
    show Steps p.tables e below (T8.setTop (mkF m 265 #[.val (.long xd), .second, .val (.long xg), .second, .val (.int xo), .val (.int (nF xo)), .val (.int (digF xd (0 : Int32))), .val (.int (digF xd (1 : Int32))), .val (.int (digF xd (2 : Int32))), .val (.int (digF xd (3 : Int32))), .val (.int (digF xd (4 : Int32))), .val (.int (digF xd (5 : Int32))), .val (.int (digF xd (6 : Int32))), .val (.int (digF xd (7 : Int32))), .val (.long (dwF xd)), .second, .val (.long (lowF (nF xo))), .second, .val (.long (wordF xd xg (nF xo))), .second, .val (.long (e4F xd (nF xo))), .second] [(.int (5 : Int32)), (.int (nF xo))])) _
    suffices J265 : Steps p.tables e below (T8.setTop (mkF m 280 #[.val (.long xd), .second, .val (.long xg), .second, .val (.int xo), .val (.int (nF xo)), .val (.int (digF xd (0 : Int32))), .val (.int (digF xd (1 : Int32))), .val (.int (digF xd (2 : Int32))), .val (.int (digF xd (3 : Int32))), .val (.int (digF xd (4 : Int32))), .val (.int (digF xd (5 : Int32))), .val (.int (digF xd (6 : Int32))), .val (.int (digF xd (7 : Int32))), .val (.long (dwF xd)), .second, .val (.long (lowF (nF xo))), .second, .val (.long (wordF xd xg (nF xo))), .second, .val (.long (e5F xd (nF xo))), .second] [])) (T9.setFrames fs) by
      by_cases h265 : (5 : Int32) < (nF xo)
      · refine XS.icmpNo X8.here hx rfl (hb hby at_265) rfl (tlt h265).2.2.2 ?_
        show Steps p.tables e below (T8.setTop (mkF m 268 #[.val (.long xd), .second, .val (.long xg), .second, .val (.int xo), .val (.int (nF xo)), .val (.int (digF xd (0 : Int32))), .val (.int (digF xd (1 : Int32))), .val (.int (digF xd (2 : Int32))), .val (.int (digF xd (3 : Int32))), .val (.int (digF xd (4 : Int32))), .val (.int (digF xd (5 : Int32))), .val (.int (digF xd (6 : Int32))), .val (.int (digF xd (7 : Int32))), .val (.long (dwF xd)), .second, .val (.long (lowF (nF xo))), .second, .val (.long (wordF xd xg (nF xo))), .second, .val (.long (e4F xd (nF xo))), .second] [])) _
        refine XS.lload X8.here hx rfl (hb hby at_268) rfl ?_
        show Steps p.tables e below (T8.setTop (mkF m 270 #[.val (.long xd), .second, .val (.long xg), .second, .val (.int xo), .val (.int (nF xo)), .val (.int (digF xd (0 : Int32))), .val (.int (digF xd (1 : Int32))), .val (.int (digF xd (2 : Int32))), .val (.int (digF xd (3 : Int32))), .val (.int (digF xd (4 : Int32))), .val (.int (digF xd (5 : Int32))), .val (.int (digF xd (6 : Int32))), .val (.int (digF xd (7 : Int32))), .val (.long (dwF xd)), .second, .val (.long (lowF (nF xo))), .second, .val (.long (wordF xd xg (nF xo))), .second, .val (.long (e4F xd (nF xo))), .second] [(.long (e4F xd (nF xo)))])) _
        refine X8.ldc2Long hx hown (mvT hZ (hw _ (List.mem_of_getElem? (i := 16) rfl))) (g := (mkF m 270 #[.val (.long xd), .second, .val (.long xg), .second, .val (.int xo), .val (.int (nF xo)), .val (.int (digF xd (0 : Int32))), .val (.int (digF xd (1 : Int32))), .val (.int (digF xd (2 : Int32))), .val (.int (digF xd (3 : Int32))), .val (.int (digF xd (4 : Int32))), .val (.int (digF xd (5 : Int32))), .val (.int (digF xd (6 : Int32))), .val (.int (digF xd (7 : Int32))), .val (.long (dwF xd)), .second, .val (.long (lowF (nF xo))), .second, .val (.long (wordF xd xg (nF xo))), .second, .val (.long (e4F xd (nF xo))), .second] [(.long (e4F xd (nF xo)))])) rfl (hb hby at_270) _ ?_
        show Steps p.tables e below (T8.setTop (mkF m 273 #[.val (.long xd), .second, .val (.long xg), .second, .val (.int xo), .val (.int (nF xo)), .val (.int (digF xd (0 : Int32))), .val (.int (digF xd (1 : Int32))), .val (.int (digF xd (2 : Int32))), .val (.int (digF xd (3 : Int32))), .val (.int (digF xd (4 : Int32))), .val (.int (digF xd (5 : Int32))), .val (.int (digF xd (6 : Int32))), .val (.int (digF xd (7 : Int32))), .val (.long (dwF xd)), .second, .val (.long (lowF (nF xo))), .second, .val (.long (wordF xd xg (nF xo))), .second, .val (.long (e4F xd (nF xo))), .second] [(.long (10 : Int64)), (.long (e4F xd (nF xo)))])) _
        refine XS.lmul X8.here hx rfl (hb hby at_273) rfl ?_
        show Steps p.tables e below (T8.setTop (mkF m 274 #[.val (.long xd), .second, .val (.long xg), .second, .val (.int xo), .val (.int (nF xo)), .val (.int (digF xd (0 : Int32))), .val (.int (digF xd (1 : Int32))), .val (.int (digF xd (2 : Int32))), .val (.int (digF xd (3 : Int32))), .val (.int (digF xd (4 : Int32))), .val (.int (digF xd (5 : Int32))), .val (.int (digF xd (6 : Int32))), .val (.int (digF xd (7 : Int32))), .val (.long (dwF xd)), .second, .val (.long (lowF (nF xo))), .second, .val (.long (wordF xd xg (nF xo))), .second, .val (.long (e4F xd (nF xo))), .second] [(.long ((e4F xd (nF xo)) * (10 : Int64)))])) _
        refine XS.iload X8.here hx rfl (hb hby at_274) rfl ?_
        show Steps p.tables e below (T8.setTop (mkF m 276 #[.val (.long xd), .second, .val (.long xg), .second, .val (.int xo), .val (.int (nF xo)), .val (.int (digF xd (0 : Int32))), .val (.int (digF xd (1 : Int32))), .val (.int (digF xd (2 : Int32))), .val (.int (digF xd (3 : Int32))), .val (.int (digF xd (4 : Int32))), .val (.int (digF xd (5 : Int32))), .val (.int (digF xd (6 : Int32))), .val (.int (digF xd (7 : Int32))), .val (.long (dwF xd)), .second, .val (.long (lowF (nF xo))), .second, .val (.long (wordF xd xg (nF xo))), .second, .val (.long (e4F xd (nF xo))), .second] [(.int (digF xd (5 : Int32))), (.long ((e4F xd (nF xo)) * (10 : Int64)))])) _
        refine XS.i2l X8.here hx rfl (hb hby at_276) rfl ?_
        show Steps p.tables e below (T8.setTop (mkF m 277 #[.val (.long xd), .second, .val (.long xg), .second, .val (.int xo), .val (.int (nF xo)), .val (.int (digF xd (0 : Int32))), .val (.int (digF xd (1 : Int32))), .val (.int (digF xd (2 : Int32))), .val (.int (digF xd (3 : Int32))), .val (.int (digF xd (4 : Int32))), .val (.int (digF xd (5 : Int32))), .val (.int (digF xd (6 : Int32))), .val (.int (digF xd (7 : Int32))), .val (.long (dwF xd)), .second, .val (.long (lowF (nF xo))), .second, .val (.long (wordF xd xg (nF xo))), .second, .val (.long (e4F xd (nF xo))), .second] [(.long ((digF xd (5 : Int32)).toInt64)), (.long ((e4F xd (nF xo)) * (10 : Int64)))])) _
        refine XS.ladd X8.here hx rfl (hb hby at_277) rfl ?_
        show Steps p.tables e below (T8.setTop (mkF m 278 #[.val (.long xd), .second, .val (.long xg), .second, .val (.int xo), .val (.int (nF xo)), .val (.int (digF xd (0 : Int32))), .val (.int (digF xd (1 : Int32))), .val (.int (digF xd (2 : Int32))), .val (.int (digF xd (3 : Int32))), .val (.int (digF xd (4 : Int32))), .val (.int (digF xd (5 : Int32))), .val (.int (digF xd (6 : Int32))), .val (.int (digF xd (7 : Int32))), .val (.long (dwF xd)), .second, .val (.long (lowF (nF xo))), .second, .val (.long (wordF xd xg (nF xo))), .second, .val (.long (e4F xd (nF xo))), .second] [(.long (((e4F xd (nF xo)) * (10 : Int64)) + ((digF xd (5 : Int32)).toInt64)))])) _
        refine XS.lstore X8.here hx rfl (hb hby at_278) rfl (l' := #[.val (.long xd), .second, .val (.long xg), .second, .val (.int xo), .val (.int (nF xo)), .val (.int (digF xd (0 : Int32))), .val (.int (digF xd (1 : Int32))), .val (.int (digF xd (2 : Int32))), .val (.int (digF xd (3 : Int32))), .val (.int (digF xd (4 : Int32))), .val (.int (digF xd (5 : Int32))), .val (.int (digF xd (6 : Int32))), .val (.int (digF xd (7 : Int32))), .val (.long (dwF xd)), .second, .val (.long (lowF (nF xo))), .second, .val (.long (wordF xd xg (nF xo))), .second, .val (.long (upF (e4F xd (nF xo)) (digF xd (5 : Int32)))), .second]) rfl ?_
        show Steps p.tables e below (T8.setTop (mkF m 280 #[.val (.long xd), .second, .val (.long xg), .second, .val (.int xo), .val (.int (nF xo)), .val (.int (digF xd (0 : Int32))), .val (.int (digF xd (1 : Int32))), .val (.int (digF xd (2 : Int32))), .val (.int (digF xd (3 : Int32))), .val (.int (digF xd (4 : Int32))), .val (.int (digF xd (5 : Int32))), .val (.int (digF xd (6 : Int32))), .val (.int (digF xd (7 : Int32))), .val (.long (dwF xd)), .second, .val (.long (lowF (nF xo))), .second, .val (.long (wordF xd xg (nF xo))), .second, .val (.long (upF (e4F xd (nF xo)) (digF xd (5 : Int32)))), .second] [])) _
        rw [show (e5F xd (nF xo)) = (upF (e4F xd (nF xo)) (digF xd (5 : Int32))) from by simp only [e5F, h265, eq_self, if_true, if_false]] at J265
        exact J265
      · refine XS.icmpYes X8.here hx rfl (pc0 := 265) (pc' := 280) rfl (hb hby at_265) rfl (flt h265).2.2.2 (by decide) (by decide) ?_
        show Steps p.tables e below (T8.setTop (mkF m 280 #[.val (.long xd), .second, .val (.long xg), .second, .val (.int xo), .val (.int (nF xo)), .val (.int (digF xd (0 : Int32))), .val (.int (digF xd (1 : Int32))), .val (.int (digF xd (2 : Int32))), .val (.int (digF xd (3 : Int32))), .val (.int (digF xd (4 : Int32))), .val (.int (digF xd (5 : Int32))), .val (.int (digF xd (6 : Int32))), .val (.int (digF xd (7 : Int32))), .val (.long (dwF xd)), .second, .val (.long (lowF (nF xo))), .second, .val (.long (wordF xd xg (nF xo))), .second, .val (.long (e4F xd (nF xo))), .second] [])) _
        rw [show (e5F xd (nF xo)) = (e4F xd (nF xo)) from by simp only [e5F, h265, eq_self, if_true, if_false]] at J265
        exact J265
    show Steps p.tables e below (T8.setTop (mkF m 280 #[.val (.long xd), .second, .val (.long xg), .second, .val (.int xo), .val (.int (nF xo)), .val (.int (digF xd (0 : Int32))), .val (.int (digF xd (1 : Int32))), .val (.int (digF xd (2 : Int32))), .val (.int (digF xd (3 : Int32))), .val (.int (digF xd (4 : Int32))), .val (.int (digF xd (5 : Int32))), .val (.int (digF xd (6 : Int32))), .val (.int (digF xd (7 : Int32))), .val (.long (dwF xd)), .second, .val (.long (lowF (nF xo))), .second, .val (.long (wordF xd xg (nF xo))), .second, .val (.long (e5F xd (nF xo))), .second] [])) _
    refine XS.iload X8.here hx rfl (hb hby at_280) rfl ?_
    show Steps p.tables e below (T8.setTop (mkF m 282 #[.val (.long xd), .second, .val (.long xg), .second, .val (.int xo), .val (.int (nF xo)), .val (.int (digF xd (0 : Int32))), .val (.int (digF xd (1 : Int32))), .val (.int (digF xd (2 : Int32))), .val (.int (digF xd (3 : Int32))), .val (.int (digF xd (4 : Int32))), .val (.int (digF xd (5 : Int32))), .val (.int (digF xd (6 : Int32))), .val (.int (digF xd (7 : Int32))), .val (.long (dwF xd)), .second, .val (.long (lowF (nF xo))), .second, .val (.long (wordF xd xg (nF xo))), .second, .val (.long (e5F xd (nF xo))), .second] [(.int (nF xo))])) _
    refine XS.bipush X8.here hx rfl (hb hby at_282) ?_
    show Steps p.tables e below (T8.setTop (mkF m 284 #[.val (.long xd), .second, .val (.long xg), .second, .val (.int xo), .val (.int (nF xo)), .val (.int (digF xd (0 : Int32))), .val (.int (digF xd (1 : Int32))), .val (.int (digF xd (2 : Int32))), .val (.int (digF xd (3 : Int32))), .val (.int (digF xd (4 : Int32))), .val (.int (digF xd (5 : Int32))), .val (.int (digF xd (6 : Int32))), .val (.int (digF xd (7 : Int32))), .val (.long (dwF xd)), .second, .val (.long (lowF (nF xo))), .second, .val (.long (wordF xd xg (nF xo))), .second, .val (.long (e5F xd (nF xo))), .second] [(.int (6 : Int32)), (.int (nF xo))])) _
    suffices J284 : Steps p.tables e below (T8.setTop (mkF m 299 #[.val (.long xd), .second, .val (.long xg), .second, .val (.int xo), .val (.int (nF xo)), .val (.int (digF xd (0 : Int32))), .val (.int (digF xd (1 : Int32))), .val (.int (digF xd (2 : Int32))), .val (.int (digF xd (3 : Int32))), .val (.int (digF xd (4 : Int32))), .val (.int (digF xd (5 : Int32))), .val (.int (digF xd (6 : Int32))), .val (.int (digF xd (7 : Int32))), .val (.long (dwF xd)), .second, .val (.long (lowF (nF xo))), .second, .val (.long (wordF xd xg (nF xo))), .second, .val (.long (e6F xd (nF xo))), .second] [])) (T9.setFrames fs) by
      by_cases h284 : (6 : Int32) < (nF xo)
      · refine XS.icmpNo X8.here hx rfl (hb hby at_284) rfl (tlt h284).2.2.2 ?_
        show Steps p.tables e below (T8.setTop (mkF m 287 #[.val (.long xd), .second, .val (.long xg), .second, .val (.int xo), .val (.int (nF xo)), .val (.int (digF xd (0 : Int32))), .val (.int (digF xd (1 : Int32))), .val (.int (digF xd (2 : Int32))), .val (.int (digF xd (3 : Int32))), .val (.int (digF xd (4 : Int32))), .val (.int (digF xd (5 : Int32))), .val (.int (digF xd (6 : Int32))), .val (.int (digF xd (7 : Int32))), .val (.long (dwF xd)), .second, .val (.long (lowF (nF xo))), .second, .val (.long (wordF xd xg (nF xo))), .second, .val (.long (e5F xd (nF xo))), .second] [])) _
        refine XS.lload X8.here hx rfl (hb hby at_287) rfl ?_
        show Steps p.tables e below (T8.setTop (mkF m 289 #[.val (.long xd), .second, .val (.long xg), .second, .val (.int xo), .val (.int (nF xo)), .val (.int (digF xd (0 : Int32))), .val (.int (digF xd (1 : Int32))), .val (.int (digF xd (2 : Int32))), .val (.int (digF xd (3 : Int32))), .val (.int (digF xd (4 : Int32))), .val (.int (digF xd (5 : Int32))), .val (.int (digF xd (6 : Int32))), .val (.int (digF xd (7 : Int32))), .val (.long (dwF xd)), .second, .val (.long (lowF (nF xo))), .second, .val (.long (wordF xd xg (nF xo))), .second, .val (.long (e5F xd (nF xo))), .second] [(.long (e5F xd (nF xo)))])) _
        refine X8.ldc2Long hx hown (mvT hZ (hw _ (List.mem_of_getElem? (i := 16) rfl))) (g := (mkF m 289 #[.val (.long xd), .second, .val (.long xg), .second, .val (.int xo), .val (.int (nF xo)), .val (.int (digF xd (0 : Int32))), .val (.int (digF xd (1 : Int32))), .val (.int (digF xd (2 : Int32))), .val (.int (digF xd (3 : Int32))), .val (.int (digF xd (4 : Int32))), .val (.int (digF xd (5 : Int32))), .val (.int (digF xd (6 : Int32))), .val (.int (digF xd (7 : Int32))), .val (.long (dwF xd)), .second, .val (.long (lowF (nF xo))), .second, .val (.long (wordF xd xg (nF xo))), .second, .val (.long (e5F xd (nF xo))), .second] [(.long (e5F xd (nF xo)))])) rfl (hb hby at_289) _ ?_
        show Steps p.tables e below (T8.setTop (mkF m 292 #[.val (.long xd), .second, .val (.long xg), .second, .val (.int xo), .val (.int (nF xo)), .val (.int (digF xd (0 : Int32))), .val (.int (digF xd (1 : Int32))), .val (.int (digF xd (2 : Int32))), .val (.int (digF xd (3 : Int32))), .val (.int (digF xd (4 : Int32))), .val (.int (digF xd (5 : Int32))), .val (.int (digF xd (6 : Int32))), .val (.int (digF xd (7 : Int32))), .val (.long (dwF xd)), .second, .val (.long (lowF (nF xo))), .second, .val (.long (wordF xd xg (nF xo))), .second, .val (.long (e5F xd (nF xo))), .second] [(.long (10 : Int64)), (.long (e5F xd (nF xo)))])) _
        refine XS.lmul X8.here hx rfl (hb hby at_292) rfl ?_
        show Steps p.tables e below (T8.setTop (mkF m 293 #[.val (.long xd), .second, .val (.long xg), .second, .val (.int xo), .val (.int (nF xo)), .val (.int (digF xd (0 : Int32))), .val (.int (digF xd (1 : Int32))), .val (.int (digF xd (2 : Int32))), .val (.int (digF xd (3 : Int32))), .val (.int (digF xd (4 : Int32))), .val (.int (digF xd (5 : Int32))), .val (.int (digF xd (6 : Int32))), .val (.int (digF xd (7 : Int32))), .val (.long (dwF xd)), .second, .val (.long (lowF (nF xo))), .second, .val (.long (wordF xd xg (nF xo))), .second, .val (.long (e5F xd (nF xo))), .second] [(.long ((e5F xd (nF xo)) * (10 : Int64)))])) _
        refine XS.iload X8.here hx rfl (hb hby at_293) rfl ?_
        show Steps p.tables e below (T8.setTop (mkF m 295 #[.val (.long xd), .second, .val (.long xg), .second, .val (.int xo), .val (.int (nF xo)), .val (.int (digF xd (0 : Int32))), .val (.int (digF xd (1 : Int32))), .val (.int (digF xd (2 : Int32))), .val (.int (digF xd (3 : Int32))), .val (.int (digF xd (4 : Int32))), .val (.int (digF xd (5 : Int32))), .val (.int (digF xd (6 : Int32))), .val (.int (digF xd (7 : Int32))), .val (.long (dwF xd)), .second, .val (.long (lowF (nF xo))), .second, .val (.long (wordF xd xg (nF xo))), .second, .val (.long (e5F xd (nF xo))), .second] [(.int (digF xd (6 : Int32))), (.long ((e5F xd (nF xo)) * (10 : Int64)))])) _
        refine XS.i2l X8.here hx rfl (hb hby at_295) rfl ?_
        show Steps p.tables e below (T8.setTop (mkF m 296 #[.val (.long xd), .second, .val (.long xg), .second, .val (.int xo), .val (.int (nF xo)), .val (.int (digF xd (0 : Int32))), .val (.int (digF xd (1 : Int32))), .val (.int (digF xd (2 : Int32))), .val (.int (digF xd (3 : Int32))), .val (.int (digF xd (4 : Int32))), .val (.int (digF xd (5 : Int32))), .val (.int (digF xd (6 : Int32))), .val (.int (digF xd (7 : Int32))), .val (.long (dwF xd)), .second, .val (.long (lowF (nF xo))), .second, .val (.long (wordF xd xg (nF xo))), .second, .val (.long (e5F xd (nF xo))), .second] [(.long ((digF xd (6 : Int32)).toInt64)), (.long ((e5F xd (nF xo)) * (10 : Int64)))])) _
        refine XS.ladd X8.here hx rfl (hb hby at_296) rfl ?_
        show Steps p.tables e below (T8.setTop (mkF m 297 #[.val (.long xd), .second, .val (.long xg), .second, .val (.int xo), .val (.int (nF xo)), .val (.int (digF xd (0 : Int32))), .val (.int (digF xd (1 : Int32))), .val (.int (digF xd (2 : Int32))), .val (.int (digF xd (3 : Int32))), .val (.int (digF xd (4 : Int32))), .val (.int (digF xd (5 : Int32))), .val (.int (digF xd (6 : Int32))), .val (.int (digF xd (7 : Int32))), .val (.long (dwF xd)), .second, .val (.long (lowF (nF xo))), .second, .val (.long (wordF xd xg (nF xo))), .second, .val (.long (e5F xd (nF xo))), .second] [(.long (((e5F xd (nF xo)) * (10 : Int64)) + ((digF xd (6 : Int32)).toInt64)))])) _
        refine XS.lstore X8.here hx rfl (hb hby at_297) rfl (l' := #[.val (.long xd), .second, .val (.long xg), .second, .val (.int xo), .val (.int (nF xo)), .val (.int (digF xd (0 : Int32))), .val (.int (digF xd (1 : Int32))), .val (.int (digF xd (2 : Int32))), .val (.int (digF xd (3 : Int32))), .val (.int (digF xd (4 : Int32))), .val (.int (digF xd (5 : Int32))), .val (.int (digF xd (6 : Int32))), .val (.int (digF xd (7 : Int32))), .val (.long (dwF xd)), .second, .val (.long (lowF (nF xo))), .second, .val (.long (wordF xd xg (nF xo))), .second, .val (.long (upF (e5F xd (nF xo)) (digF xd (6 : Int32)))), .second]) rfl ?_
        show Steps p.tables e below (T8.setTop (mkF m 299 #[.val (.long xd), .second, .val (.long xg), .second, .val (.int xo), .val (.int (nF xo)), .val (.int (digF xd (0 : Int32))), .val (.int (digF xd (1 : Int32))), .val (.int (digF xd (2 : Int32))), .val (.int (digF xd (3 : Int32))), .val (.int (digF xd (4 : Int32))), .val (.int (digF xd (5 : Int32))), .val (.int (digF xd (6 : Int32))), .val (.int (digF xd (7 : Int32))), .val (.long (dwF xd)), .second, .val (.long (lowF (nF xo))), .second, .val (.long (wordF xd xg (nF xo))), .second, .val (.long (upF (e5F xd (nF xo)) (digF xd (6 : Int32)))), .second] [])) _
        rw [show (e6F xd (nF xo)) = (upF (e5F xd (nF xo)) (digF xd (6 : Int32))) from by simp only [e6F, h284, eq_self, if_true, if_false]] at J284
        exact J284
      · refine XS.icmpYes X8.here hx rfl (pc0 := 284) (pc' := 299) rfl (hb hby at_284) rfl (flt h284).2.2.2 (by decide) (by decide) ?_
        show Steps p.tables e below (T8.setTop (mkF m 299 #[.val (.long xd), .second, .val (.long xg), .second, .val (.int xo), .val (.int (nF xo)), .val (.int (digF xd (0 : Int32))), .val (.int (digF xd (1 : Int32))), .val (.int (digF xd (2 : Int32))), .val (.int (digF xd (3 : Int32))), .val (.int (digF xd (4 : Int32))), .val (.int (digF xd (5 : Int32))), .val (.int (digF xd (6 : Int32))), .val (.int (digF xd (7 : Int32))), .val (.long (dwF xd)), .second, .val (.long (lowF (nF xo))), .second, .val (.long (wordF xd xg (nF xo))), .second, .val (.long (e5F xd (nF xo))), .second] [])) _
        rw [show (e6F xd (nF xo)) = (e5F xd (nF xo)) from by simp only [e6F, h284, eq_self, if_true, if_false]] at J284
        exact J284
    show Steps p.tables e below (T8.setTop (mkF m 299 #[.val (.long xd), .second, .val (.long xg), .second, .val (.int xo), .val (.int (nF xo)), .val (.int (digF xd (0 : Int32))), .val (.int (digF xd (1 : Int32))), .val (.int (digF xd (2 : Int32))), .val (.int (digF xd (3 : Int32))), .val (.int (digF xd (4 : Int32))), .val (.int (digF xd (5 : Int32))), .val (.int (digF xd (6 : Int32))), .val (.int (digF xd (7 : Int32))), .val (.long (dwF xd)), .second, .val (.long (lowF (nF xo))), .second, .val (.long (wordF xd xg (nF xo))), .second, .val (.long (e6F xd (nF xo))), .second] [])) _
    refine XS.iload X8.here hx rfl (hb hby at_299) rfl ?_
    show Steps p.tables e below (T8.setTop (mkF m 301 #[.val (.long xd), .second, .val (.long xg), .second, .val (.int xo), .val (.int (nF xo)), .val (.int (digF xd (0 : Int32))), .val (.int (digF xd (1 : Int32))), .val (.int (digF xd (2 : Int32))), .val (.int (digF xd (3 : Int32))), .val (.int (digF xd (4 : Int32))), .val (.int (digF xd (5 : Int32))), .val (.int (digF xd (6 : Int32))), .val (.int (digF xd (7 : Int32))), .val (.long (dwF xd)), .second, .val (.long (lowF (nF xo))), .second, .val (.long (wordF xd xg (nF xo))), .second, .val (.long (e6F xd (nF xo))), .second] [(.int (nF xo))])) _
    refine XS.bipush X8.here hx rfl (hb hby at_301) ?_
    show Steps p.tables e below (T8.setTop (mkF m 303 #[.val (.long xd), .second, .val (.long xg), .second, .val (.int xo), .val (.int (nF xo)), .val (.int (digF xd (0 : Int32))), .val (.int (digF xd (1 : Int32))), .val (.int (digF xd (2 : Int32))), .val (.int (digF xd (3 : Int32))), .val (.int (digF xd (4 : Int32))), .val (.int (digF xd (5 : Int32))), .val (.int (digF xd (6 : Int32))), .val (.int (digF xd (7 : Int32))), .val (.long (dwF xd)), .second, .val (.long (lowF (nF xo))), .second, .val (.long (wordF xd xg (nF xo))), .second, .val (.long (e6F xd (nF xo))), .second] [(.int (7 : Int32)), (.int (nF xo))])) _
    suffices J303 : Steps p.tables e below (T8.setTop (mkF m 318 #[.val (.long xd), .second, .val (.long xg), .second, .val (.int xo), .val (.int (nF xo)), .val (.int (digF xd (0 : Int32))), .val (.int (digF xd (1 : Int32))), .val (.int (digF xd (2 : Int32))), .val (.int (digF xd (3 : Int32))), .val (.int (digF xd (4 : Int32))), .val (.int (digF xd (5 : Int32))), .val (.int (digF xd (6 : Int32))), .val (.int (digF xd (7 : Int32))), .val (.long (dwF xd)), .second, .val (.long (lowF (nF xo))), .second, .val (.long (wordF xd xg (nF xo))), .second, .val (.long (e7F xd (nF xo))), .second] [])) (T9.setFrames fs) by
      by_cases h303 : (7 : Int32) < (nF xo)
      · refine XS.icmpNo X8.here hx rfl (hb hby at_303) rfl (tlt h303).2.2.2 ?_
        show Steps p.tables e below (T8.setTop (mkF m 306 #[.val (.long xd), .second, .val (.long xg), .second, .val (.int xo), .val (.int (nF xo)), .val (.int (digF xd (0 : Int32))), .val (.int (digF xd (1 : Int32))), .val (.int (digF xd (2 : Int32))), .val (.int (digF xd (3 : Int32))), .val (.int (digF xd (4 : Int32))), .val (.int (digF xd (5 : Int32))), .val (.int (digF xd (6 : Int32))), .val (.int (digF xd (7 : Int32))), .val (.long (dwF xd)), .second, .val (.long (lowF (nF xo))), .second, .val (.long (wordF xd xg (nF xo))), .second, .val (.long (e6F xd (nF xo))), .second] [])) _
        refine XS.lload X8.here hx rfl (hb hby at_306) rfl ?_
        show Steps p.tables e below (T8.setTop (mkF m 308 #[.val (.long xd), .second, .val (.long xg), .second, .val (.int xo), .val (.int (nF xo)), .val (.int (digF xd (0 : Int32))), .val (.int (digF xd (1 : Int32))), .val (.int (digF xd (2 : Int32))), .val (.int (digF xd (3 : Int32))), .val (.int (digF xd (4 : Int32))), .val (.int (digF xd (5 : Int32))), .val (.int (digF xd (6 : Int32))), .val (.int (digF xd (7 : Int32))), .val (.long (dwF xd)), .second, .val (.long (lowF (nF xo))), .second, .val (.long (wordF xd xg (nF xo))), .second, .val (.long (e6F xd (nF xo))), .second] [(.long (e6F xd (nF xo)))])) _
        refine X8.ldc2Long hx hown (mvT hZ (hw _ (List.mem_of_getElem? (i := 16) rfl))) (g := (mkF m 308 #[.val (.long xd), .second, .val (.long xg), .second, .val (.int xo), .val (.int (nF xo)), .val (.int (digF xd (0 : Int32))), .val (.int (digF xd (1 : Int32))), .val (.int (digF xd (2 : Int32))), .val (.int (digF xd (3 : Int32))), .val (.int (digF xd (4 : Int32))), .val (.int (digF xd (5 : Int32))), .val (.int (digF xd (6 : Int32))), .val (.int (digF xd (7 : Int32))), .val (.long (dwF xd)), .second, .val (.long (lowF (nF xo))), .second, .val (.long (wordF xd xg (nF xo))), .second, .val (.long (e6F xd (nF xo))), .second] [(.long (e6F xd (nF xo)))])) rfl (hb hby at_308) _ ?_
        show Steps p.tables e below (T8.setTop (mkF m 311 #[.val (.long xd), .second, .val (.long xg), .second, .val (.int xo), .val (.int (nF xo)), .val (.int (digF xd (0 : Int32))), .val (.int (digF xd (1 : Int32))), .val (.int (digF xd (2 : Int32))), .val (.int (digF xd (3 : Int32))), .val (.int (digF xd (4 : Int32))), .val (.int (digF xd (5 : Int32))), .val (.int (digF xd (6 : Int32))), .val (.int (digF xd (7 : Int32))), .val (.long (dwF xd)), .second, .val (.long (lowF (nF xo))), .second, .val (.long (wordF xd xg (nF xo))), .second, .val (.long (e6F xd (nF xo))), .second] [(.long (10 : Int64)), (.long (e6F xd (nF xo)))])) _
        refine XS.lmul X8.here hx rfl (hb hby at_311) rfl ?_
        show Steps p.tables e below (T8.setTop (mkF m 312 #[.val (.long xd), .second, .val (.long xg), .second, .val (.int xo), .val (.int (nF xo)), .val (.int (digF xd (0 : Int32))), .val (.int (digF xd (1 : Int32))), .val (.int (digF xd (2 : Int32))), .val (.int (digF xd (3 : Int32))), .val (.int (digF xd (4 : Int32))), .val (.int (digF xd (5 : Int32))), .val (.int (digF xd (6 : Int32))), .val (.int (digF xd (7 : Int32))), .val (.long (dwF xd)), .second, .val (.long (lowF (nF xo))), .second, .val (.long (wordF xd xg (nF xo))), .second, .val (.long (e6F xd (nF xo))), .second] [(.long ((e6F xd (nF xo)) * (10 : Int64)))])) _
        refine XS.iload X8.here hx rfl (hb hby at_312) rfl ?_
        show Steps p.tables e below (T8.setTop (mkF m 314 #[.val (.long xd), .second, .val (.long xg), .second, .val (.int xo), .val (.int (nF xo)), .val (.int (digF xd (0 : Int32))), .val (.int (digF xd (1 : Int32))), .val (.int (digF xd (2 : Int32))), .val (.int (digF xd (3 : Int32))), .val (.int (digF xd (4 : Int32))), .val (.int (digF xd (5 : Int32))), .val (.int (digF xd (6 : Int32))), .val (.int (digF xd (7 : Int32))), .val (.long (dwF xd)), .second, .val (.long (lowF (nF xo))), .second, .val (.long (wordF xd xg (nF xo))), .second, .val (.long (e6F xd (nF xo))), .second] [(.int (digF xd (7 : Int32))), (.long ((e6F xd (nF xo)) * (10 : Int64)))])) _
        refine XS.i2l X8.here hx rfl (hb hby at_314) rfl ?_
        show Steps p.tables e below (T8.setTop (mkF m 315 #[.val (.long xd), .second, .val (.long xg), .second, .val (.int xo), .val (.int (nF xo)), .val (.int (digF xd (0 : Int32))), .val (.int (digF xd (1 : Int32))), .val (.int (digF xd (2 : Int32))), .val (.int (digF xd (3 : Int32))), .val (.int (digF xd (4 : Int32))), .val (.int (digF xd (5 : Int32))), .val (.int (digF xd (6 : Int32))), .val (.int (digF xd (7 : Int32))), .val (.long (dwF xd)), .second, .val (.long (lowF (nF xo))), .second, .val (.long (wordF xd xg (nF xo))), .second, .val (.long (e6F xd (nF xo))), .second] [(.long ((digF xd (7 : Int32)).toInt64)), (.long ((e6F xd (nF xo)) * (10 : Int64)))])) _
        refine XS.ladd X8.here hx rfl (hb hby at_315) rfl ?_
        show Steps p.tables e below (T8.setTop (mkF m 316 #[.val (.long xd), .second, .val (.long xg), .second, .val (.int xo), .val (.int (nF xo)), .val (.int (digF xd (0 : Int32))), .val (.int (digF xd (1 : Int32))), .val (.int (digF xd (2 : Int32))), .val (.int (digF xd (3 : Int32))), .val (.int (digF xd (4 : Int32))), .val (.int (digF xd (5 : Int32))), .val (.int (digF xd (6 : Int32))), .val (.int (digF xd (7 : Int32))), .val (.long (dwF xd)), .second, .val (.long (lowF (nF xo))), .second, .val (.long (wordF xd xg (nF xo))), .second, .val (.long (e6F xd (nF xo))), .second] [(.long (((e6F xd (nF xo)) * (10 : Int64)) + ((digF xd (7 : Int32)).toInt64)))])) _
        refine XS.lstore X8.here hx rfl (hb hby at_316) rfl (l' := #[.val (.long xd), .second, .val (.long xg), .second, .val (.int xo), .val (.int (nF xo)), .val (.int (digF xd (0 : Int32))), .val (.int (digF xd (1 : Int32))), .val (.int (digF xd (2 : Int32))), .val (.int (digF xd (3 : Int32))), .val (.int (digF xd (4 : Int32))), .val (.int (digF xd (5 : Int32))), .val (.int (digF xd (6 : Int32))), .val (.int (digF xd (7 : Int32))), .val (.long (dwF xd)), .second, .val (.long (lowF (nF xo))), .second, .val (.long (wordF xd xg (nF xo))), .second, .val (.long (upF (e6F xd (nF xo)) (digF xd (7 : Int32)))), .second]) rfl ?_
        show Steps p.tables e below (T8.setTop (mkF m 318 #[.val (.long xd), .second, .val (.long xg), .second, .val (.int xo), .val (.int (nF xo)), .val (.int (digF xd (0 : Int32))), .val (.int (digF xd (1 : Int32))), .val (.int (digF xd (2 : Int32))), .val (.int (digF xd (3 : Int32))), .val (.int (digF xd (4 : Int32))), .val (.int (digF xd (5 : Int32))), .val (.int (digF xd (6 : Int32))), .val (.int (digF xd (7 : Int32))), .val (.long (dwF xd)), .second, .val (.long (lowF (nF xo))), .second, .val (.long (wordF xd xg (nF xo))), .second, .val (.long (upF (e6F xd (nF xo)) (digF xd (7 : Int32)))), .second] [])) _
        rw [show (e7F xd (nF xo)) = (upF (e6F xd (nF xo)) (digF xd (7 : Int32))) from by simp only [e7F, h303, eq_self, if_true, if_false]] at J303
        exact J303
      · refine XS.icmpYes X8.here hx rfl (pc0 := 303) (pc' := 318) rfl (hb hby at_303) rfl (flt h303).2.2.2 (by decide) (by decide) ?_
        show Steps p.tables e below (T8.setTop (mkF m 318 #[.val (.long xd), .second, .val (.long xg), .second, .val (.int xo), .val (.int (nF xo)), .val (.int (digF xd (0 : Int32))), .val (.int (digF xd (1 : Int32))), .val (.int (digF xd (2 : Int32))), .val (.int (digF xd (3 : Int32))), .val (.int (digF xd (4 : Int32))), .val (.int (digF xd (5 : Int32))), .val (.int (digF xd (6 : Int32))), .val (.int (digF xd (7 : Int32))), .val (.long (dwF xd)), .second, .val (.long (lowF (nF xo))), .second, .val (.long (wordF xd xg (nF xo))), .second, .val (.long (e6F xd (nF xo))), .second] [])) _
        rw [show (e7F xd (nF xo)) = (e6F xd (nF xo)) from by simp only [e7F, h303, eq_self, if_true, if_false]] at J303
        exact J303
    show Steps p.tables e below (T8.setTop (mkF m 318 #[.val (.long xd), .second, .val (.long xg), .second, .val (.int xo), .val (.int (nF xo)), .val (.int (digF xd (0 : Int32))), .val (.int (digF xd (1 : Int32))), .val (.int (digF xd (2 : Int32))), .val (.int (digF xd (3 : Int32))), .val (.int (digF xd (4 : Int32))), .val (.int (digF xd (5 : Int32))), .val (.int (digF xd (6 : Int32))), .val (.int (digF xd (7 : Int32))), .val (.long (dwF xd)), .second, .val (.long (lowF (nF xo))), .second, .val (.long (wordF xd xg (nF xo))), .second, .val (.long (e7F xd (nF xo))), .second] [])) _
    refine XS.lload X8.here hx rfl (hb hby at_318) rfl ?_
    show Steps p.tables e below (T8.setTop (mkF m 320 #[.val (.long xd), .second, .val (.long xg), .second, .val (.int xo), .val (.int (nF xo)), .val (.int (digF xd (0 : Int32))), .val (.int (digF xd (1 : Int32))), .val (.int (digF xd (2 : Int32))), .val (.int (digF xd (3 : Int32))), .val (.int (digF xd (4 : Int32))), .val (.int (digF xd (5 : Int32))), .val (.int (digF xd (6 : Int32))), .val (.int (digF xd (7 : Int32))), .val (.long (dwF xd)), .second, .val (.long (lowF (nF xo))), .second, .val (.long (wordF xd xg (nF xo))), .second, .val (.long (e7F xd (nF xo))), .second] [(.long (wordF xd xg (nF xo)))])) _
    refine XS.iload X8.here hx rfl (hb hby at_320) rfl ?_
    show Steps p.tables e below (T8.setTop (mkF m 322 #[.val (.long xd), .second, .val (.long xg), .second, .val (.int xo), .val (.int (nF xo)), .val (.int (digF xd (0 : Int32))), .val (.int (digF xd (1 : Int32))), .val (.int (digF xd (2 : Int32))), .val (.int (digF xd (3 : Int32))), .val (.int (digF xd (4 : Int32))), .val (.int (digF xd (5 : Int32))), .val (.int (digF xd (6 : Int32))), .val (.int (digF xd (7 : Int32))), .val (.long (dwF xd)), .second, .val (.long (lowF (nF xo))), .second, .val (.long (wordF xd xg (nF xo))), .second, .val (.long (e7F xd (nF xo))), .second] [(.int (nF xo)), (.long (wordF xd xg (nF xo)))])) _
    refine st9 _ ?_
    show Steps p.tables e below (T9.setTop (mkF m 325 #[.val (.long xd), .second, .val (.long xg), .second, .val (.int xo), .val (.int (nF xo)), .val (.int (digF xd (0 : Int32))), .val (.int (digF xd (1 : Int32))), .val (.int (digF xd (2 : Int32))), .val (.int (digF xd (3 : Int32))), .val (.int (digF xd (4 : Int32))), .val (.int (digF xd (5 : Int32))), .val (.int (digF xd (6 : Int32))), .val (.int (digF xd (7 : Int32))), .val (.long (dwF xd)), .second, .val (.long (lowF (nF xo))), .second, .val (.long (wordF xd xg (nF xo))), .second, .val (.long (e7F xd (nF xo))), .second] [(.long (valF (wordF xd xg (nF xo)) (nF xo)))])) _
    refine XS.lload X9.here hx rfl (hb hby at_325) rfl ?_
    show Steps p.tables e below (T9.setTop (mkF m 327 #[.val (.long xd), .second, .val (.long xg), .second, .val (.int xo), .val (.int (nF xo)), .val (.int (digF xd (0 : Int32))), .val (.int (digF xd (1 : Int32))), .val (.int (digF xd (2 : Int32))), .val (.int (digF xd (3 : Int32))), .val (.int (digF xd (4 : Int32))), .val (.int (digF xd (5 : Int32))), .val (.int (digF xd (6 : Int32))), .val (.int (digF xd (7 : Int32))), .val (.long (dwF xd)), .second, .val (.long (lowF (nF xo))), .second, .val (.long (wordF xd xg (nF xo))), .second, .val (.long (e7F xd (nF xo))), .second] [(.long (e7F xd (nF xo))), (.long (valF (wordF xd xg (nF xo)) (nF xo)))])) _
    refine XS.lcmp X9.here hx rfl (hb hby at_327) rfl ?_
    show Steps p.tables e below (T9.setTop (mkF m 328 #[.val (.long xd), .second, .val (.long xg), .second, .val (.int xo), .val (.int (nF xo)), .val (.int (digF xd (0 : Int32))), .val (.int (digF xd (1 : Int32))), .val (.int (digF xd (2 : Int32))), .val (.int (digF xd (3 : Int32))), .val (.int (digF xd (4 : Int32))), .val (.int (digF xd (5 : Int32))), .val (.int (digF xd (6 : Int32))), .val (.int (digF xd (7 : Int32))), .val (.long (dwF xd)), .second, .val (.long (lowF (nF xo))), .second, .val (.long (wordF xd xg (nF xo))), .second, .val (.long (e7F xd (nF xo))), .second] [(.int (lcmpW (valF (wordF xd xg (nF xo)) (nF xo)) (e7F xd (nF xo))))])) _
    by_cases h328 : (valF (wordF xd xg (nF xo)) (nF xo)) = (e7F xd (nF xo))
    · refine XS.ifNo X9.here hx rfl (hb hby at_328) rfl ((if0 _ _).trans (teq ((lw_eq _ _).2 h328)).2) ?_
      show Steps p.tables e below (T9.setTop (mkF m 331 #[.val (.long xd), .second, .val (.long xg), .second, .val (.int xo), .val (.int (nF xo)), .val (.int (digF xd (0 : Int32))), .val (.int (digF xd (1 : Int32))), .val (.int (digF xd (2 : Int32))), .val (.int (digF xd (3 : Int32))), .val (.int (digF xd (4 : Int32))), .val (.int (digF xd (5 : Int32))), .val (.int (digF xd (6 : Int32))), .val (.int (digF xd (7 : Int32))), .val (.long (dwF xd)), .second, .val (.long (lowF (nF xo))), .second, .val (.long (wordF xd xg (nF xo))), .second, .val (.long (e7F xd (nF xo))), .second] [])) _
      refine XS.iconst X9.here hx rfl (hb hby at_331) ?_
      show Steps p.tables e below (T9.setTop (mkF m 332 #[.val (.long xd), .second, .val (.long xg), .second, .val (.int xo), .val (.int (nF xo)), .val (.int (digF xd (0 : Int32))), .val (.int (digF xd (1 : Int32))), .val (.int (digF xd (2 : Int32))), .val (.int (digF xd (3 : Int32))), .val (.int (digF xd (4 : Int32))), .val (.int (digF xd (5 : Int32))), .val (.int (digF xd (6 : Int32))), .val (.int (digF xd (7 : Int32))), .val (.long (dwF xd)), .second, .val (.long (lowF (nF xo))), .second, .val (.long (wordF xd xg (nF xo))), .second, .val (.long (e7F xd (nF xo))), .second] [(.int (1 : Int32))])) _
      refine XS.goto X9.here hx rfl (pc0 := 332) (pc' := 336) rfl (hb hby at_332) (by decide) (by decide) ?_
      show Steps p.tables e below (T9.setTop (mkF m 336 #[.val (.long xd), .second, .val (.long xg), .second, .val (.int xo), .val (.int (nF xo)), .val (.int (digF xd (0 : Int32))), .val (.int (digF xd (1 : Int32))), .val (.int (digF xd (2 : Int32))), .val (.int (digF xd (3 : Int32))), .val (.int (digF xd (4 : Int32))), .val (.int (digF xd (5 : Int32))), .val (.int (digF xd (6 : Int32))), .val (.int (digF xd (7 : Int32))), .val (.long (dwF xd)), .second, .val (.long (lowF (nF xo))), .second, .val (.long (wordF xd xg (nF xo))), .second, .val (.long (e7F xd (nF xo))), .second] [(.int (1 : Int32))])) _
      exact retN X9 hx (t := .boolean) Bd.returns (by simp) (hb hby at_336) (by rw [show nar .boolean (1 : Int32) = (lawF xd xg xo) from (own_nar1).trans (by simp only [lawF, h328, eq_self, if_true, if_false])]; exact hr)
    · refine XS.ifYes X9.here hx rfl (pc0 := 328) (pc' := 335) rfl (hb hby at_328) rfl ((if0 _ _).trans (feq (fun q => h328 ((lw_eq _ _).1 q))).2) (by decide) (by decide) ?_
      show Steps p.tables e below (T9.setTop (mkF m 335 #[.val (.long xd), .second, .val (.long xg), .second, .val (.int xo), .val (.int (nF xo)), .val (.int (digF xd (0 : Int32))), .val (.int (digF xd (1 : Int32))), .val (.int (digF xd (2 : Int32))), .val (.int (digF xd (3 : Int32))), .val (.int (digF xd (4 : Int32))), .val (.int (digF xd (5 : Int32))), .val (.int (digF xd (6 : Int32))), .val (.int (digF xd (7 : Int32))), .val (.long (dwF xd)), .second, .val (.long (lowF (nF xo))), .second, .val (.long (wordF xd xg (nF xo))), .second, .val (.long (e7F xd (nF xo))), .second] [])) _
      refine XS.iconst X9.here hx rfl (hb hby at_335) ?_
      show Steps p.tables e below (T9.setTop (mkF m 336 #[.val (.long xd), .second, .val (.long xg), .second, .val (.int xo), .val (.int (nF xo)), .val (.int (digF xd (0 : Int32))), .val (.int (digF xd (1 : Int32))), .val (.int (digF xd (2 : Int32))), .val (.int (digF xd (3 : Int32))), .val (.int (digF xd (4 : Int32))), .val (.int (digF xd (5 : Int32))), .val (.int (digF xd (6 : Int32))), .val (.int (digF xd (7 : Int32))), .val (.long (dwF xd)), .second, .val (.long (lowF (nF xo))), .second, .val (.long (wordF xd xg (nF xo))), .second, .val (.long (e7F xd (nF xo))), .second] [(.int (0 : Int32))])) _
      exact retN X9 hx (t := .boolean) Bd.returns (by simp) (hb hby at_336) (by rw [show nar .boolean (0 : Int32) = (lawF xd xg xo) from (own_nar0).trans (by simp only [lawF, h328, eq_self, if_true, if_false])]; exact hr)
  · show Q_law Z xd xg xo h0 n0 _ T9.heap _
    exact ⟨rfl, N9, trivial⟩
set_option maxRecDepth 65536 in
set_option maxHeartbeats 40000000 in
theorem comes_1 {Post : Tables → Env → Array Value → State → Outcome → State → Prop} (hpost : ∀ tb e args s v u, (limb_1_1.after args s (.returned v) u = true ∧ limb_1_2.after args s (.returned v) u = true ∧ True) → FrameEnd s (.returned v) u (Jvm.fieldLocs frame_1_writes args s ++ Jvm.arrayLocs frame_1_arrays args s ++ Jvm.staticLocs frame_1_statics s) 0 0 → Post tb e args s (.returned v) u) :
    ArmFor flags0 classFile x code maxLocals ret World_1 tables_1 room_1 Calls_1 rest_1 Pre_1 Post := by
  intro l hfl _ _ p e ha hc hk s m args below hf hA hF happ hP
  obtain ⟨hcalls, hrest, hpre⟩ := hP
  obtain ⟨-, -, -, hnamed, -, -, -, hat⟩ := (Spec.applies_iff hf).mp happ
  obtain ⟨hg, hn⟩ := and_e (Cond.before_iff.mp (show (Jvm.Cond.and given_1 narrow_1).before args s = true from hpre))
  obtain ⟨gc, g0⟩ := and_e hg
  obtain ⟨k0, g1⟩ := and_e g0
  obtain ⟨k1, g2⟩ := and_e g1
  have k2 := g2
  obtain ⟨w0, w1, w2, rfl⟩ : ∃ w0 w1 w2 : Value, args = #[w0, w1, w2] := by
    have hs : args.size = 3 := by simpa [Cond.value, given_1] using gc
    obtain ⟨L⟩ := args
    match L, hs with
    | [w0, w1, w2], _ => exact ⟨w0, w1, w2, rfl⟩
  have hw := fun d (hd : d ∈ tables_1) => atoms_spec (ws := Jvm.Cond.code x code maxLocals ret :: tables_1) hat d (List.mem_cons_of_mem _ hd)
  obtain ⟨i0, ei0⟩ := isL_v k0
  obtain rfl : w0 = (.long i0) := Option.some.inj ei0
  obtain ⟨i1, ei1⟩ := isL_v k1
  obtain rfl : w1 = (.long i1) := Option.some.inj ei1
  obtain ⟨i2, ei2⟩ := is_v k2
  obtain rfl : w2 = (.int i2) := Option.some.inj ei2
  obtain ⟨n, o, h1, h2, h3, v, L, rfl, hQ, hq⟩ := rm_law l s _ hw tables_1 i0 i1 i2 s.heap s.heap.size (Nat.le_refl _)  p e ha hc hk s m _ below hf ((Spec.applies_iff_loose hf).mp happ).1 ⟨rfl, State.Warmed39.refl s, rfl⟩ trivial
  have hv : v = some (.int 1) := hQ.1.trans (by rw [lawF_one])
  subst hv
  have N := hQ.2.1
  refine ⟨n, _, h1, h2, h3, hpost _ _ _ _ _ _ ⟨Cond.after_iff.mpr rfl, Cond.after_iff.mpr (eq_i res_at (Term.int_eval (1)) rfl), trivial⟩ ⟨hq.1, hq.2.1, (hq.2.2.sift fun y hy => Or.inr (N y hy)).mono (by decide) (by decide)⟩⟩
theorem main_1_1 : Claimed_1_1 := comes_1 fun _ _ _ _ _ _ h hF => ⟨h.1, hF⟩
theorem main_1_2 : Claimed_1_2 := comes_1 fun _ _ _ _ _ _ h hF => ⟨h.2.1, hF⟩
end Jvm.Pilot.@@N@@
namespace Jvm.Pilot.@@N@@
open Jvm Jvm.ClassFile Sem Op Lib Jvm.Free Jvm.Stand Jvm.Pilot.@@N@@.Jvm.D
/-! MADE BY PROGRAM (witnessworld.py) out of the Statement's table words and the real class files: 9 classes; the members and pool entries that the words name. The judged class is class 1, her method 2. -/
namespace start1
open Jvm.ClassFile
def u (s : String) : CpInfo := .utf8 (stringToUtf16 s)
/-- a pool by its gaps: so many unusable entries, then the entry; so many at the end -/
def gap : Nat → List CpInfo → List CpInfo
  | 0, r => r
  | n + 1, r => .unusable :: gap n r
def poolList (es : List (Nat × CpInfo)) (last : Nat) : List CpInfo := es.foldr (fun e r => gap e.1 (e.2 :: r)) (gap last [])
def pool (es : List (Nat × CpInfo)) (last : Nat) : Array CpInfo := ⟨poolList es last⟩
def fileOf (pool : Array CpInfo) (this : Nat) (attrs : Array Attribute := #[]) (ms : Array MethodInfo := #[]) (fl : Nat := 33) (sup : Nat := 0) (ifs : Array Nat := #[]) (fds : Array FieldInfo := #[]) : ClassFile where
  minorVersion := 0
  majorVersion := 65
  constantPool := pool
  accessFlags := fl
  thisClass := this
  superClass := sup
  interfaces := ifs
  fields := fds
  methods := ms
  attributes := attrs
def plain (name : String) (sup : Option ClassId) : Class where
  name := name
  kind := .ordinary
  loader := none
  accessFlags := 33
  super := sup
  interfaces := #[]
  cf := none
  fields := #[]
  methods := #[]
  instanceTypes := #[]
  staticTypes := #[]
  resolved := #[]
  callSites := []
  init := .initialized
  statics := none
  mirror := none

def pool0 : Array CpInfo := pool [(5, u "<init>"), (0, u "()V"), (1, .class_ 10), (1, u "java/lang/Object")] 113

def k0m0 : Method := { name := "<init>", desc := "()V", sig := { parameters := [], returnType := none }, accessFlags := 1, code := none }
/-- java/lang/Object -/
def k0 : Class := { plain "java/lang/Object" none with
  accessFlags := 33
  interfaces := #[]
  cf := some (fileOf pool0 8 #[] #[{ accessFlags := 1, nameIndex := 5, descriptorIndex := 6, attributes := #[] }] 33 0 #[] #[])
  fields := #[]
  methods := #[k0m0]
  instanceTypes := #[]
  staticTypes := #[]
  resolved := Array.replicate 124 none
  statics := none }

def pool1 : Array CpInfo := pool [(2, .class_ 4), (1, u "java/lang/Object"), (0, u "<init>"), (0, u "()V"), (0, .long 255), (1, .methodref 10 11), (0, .class_ 12), (0, .nameAndType 13 14), (0, u "com/example/tandem_scroll/tandemscroll/formats/BytesValuePinLaw"), (0, u "digit"), (0, u "(JI)I"), (0, .long 18446744073709551615), (1, .long 10), (1, .methodref 20 21), (0, .class_ 22), (0, .nameAndType 23 24), (0, u "com/example/tandem_scroll/tandemscroll/formats/Bytes"), (0, u "value"), (0, u "(JI)J"), (2, u "law"), (0, u "(JJI)Z")] 3

def k1m0 : Method := { name := "<init>", desc := "()V", sig := { parameters := [], returnType := none }, accessFlags := 2, code := none }
def k1c1 : Code := { maxStack := 4, maxLocals := 3, code := method_2_code, exceptionTable := #[], attributes := #[] }
def k1m1 : Method := { name := "digit", desc := "(JI)I", sig := { parameters := [.long, .int], returnType := some .int }, accessFlags := 10, code := some k1c1 }
def k1c2 : Code := { maxStack := 8, maxLocals := 22, code := code, exceptionTable := #[], attributes := #[] }
def k1m2 : Method := { name := "law", desc := "(JJI)Z", sig := { parameters := [.long, .long, .int], returnType := some .boolean }, accessFlags := 9, code := some k1c2 }
/-- com/example/tandem_scroll/tandemscroll/formats/BytesValuePinLaw -/
def k1 : Class := { plain "com/example/tandem_scroll/tandemscroll/formats/BytesValuePinLaw" (some 0) with
  accessFlags := 49
  interfaces := #[]
  cf := some (fileOf pool1 10 #[] #[{ accessFlags := 2, nameIndex := 5, descriptorIndex := 6, attributes := #[] }, { accessFlags := 10, nameIndex := 13, descriptorIndex := 14, attributes := #[] }, { accessFlags := 9, nameIndex := 27, descriptorIndex := 28, attributes := #[] }] 49 2 #[] #[])
  fields := #[]
  methods := #[k1m0, k1m1, k1m2]
  instanceTypes := #[]
  staticTypes := #[]
  resolved := Array.replicate 32 none
  statics := none }

def pool2 : Array CpInfo := pool [(2, .class_ 4), (1, u "java/lang/Object"), (0, u "<init>"), (0, u "()V"), (0, .class_ 8), (0, u "com/example/tandem_scroll/tandemscroll/formats/Bytes"), (6, u "WORDS"), (0, u "Ljava/lang/invoke/VarHandle;"), (26, .long 1085102592571150095), (1, .long 2561), (1, .long 71777214294589695), (1, .long 6553601), (1, .long 281470681808895), (1, .long 42949672960001), (10, u "value"), (0, u "(JI)J"), (18, u "ONES"), (0, u "J"), (1, u "LOWS"), (0, u "HIGHS"), (0, u "ZEROS"), (0, u "PAST_NINE"), (0, u "DIGIT_VALUES")] 11

def k2m0 : Method := { name := "<init>", desc := "()V", sig := { parameters := [], returnType := none }, accessFlags := 2, code := none }
def k2c1 : Code := { maxStack := 5, maxLocals := 9, code := prog_20_method_7_code, exceptionTable := #[], attributes := #[] }
def k2m1 : Method := { name := "value", desc := "(JI)J", sig := { parameters := [.long, .int], returnType := some .long }, accessFlags := 8, code := some k2c1 }
/-- com/example/tandem_scroll/tandemscroll/formats/Bytes -/
def k2 : Class := { plain "com/example/tandem_scroll/tandemscroll/formats/Bytes" (some 0) with
  accessFlags := 48
  interfaces := #[]
  cf := some (fileOf pool2 7 #[] #[{ accessFlags := 2, nameIndex := 5, descriptorIndex := 6, attributes := #[] }, { accessFlags := 8, nameIndex := 64, descriptorIndex := 65, attributes := #[] }] 48 2 #[] #[{ accessFlags := 26, nameIndex := 15, descriptorIndex := 16, attributes := #[] }, { accessFlags := 26, nameIndex := 84, descriptorIndex := 85, attributes := #[] }, { accessFlags := 26, nameIndex := 87, descriptorIndex := 85, attributes := #[] }, { accessFlags := 26, nameIndex := 88, descriptorIndex := 85, attributes := #[] }, { accessFlags := 26, nameIndex := 89, descriptorIndex := 85, attributes := #[] }, { accessFlags := 26, nameIndex := 90, descriptorIndex := 85, attributes := #[] }, { accessFlags := 26, nameIndex := 91, descriptorIndex := 85, attributes := #[] }])
  fields := #[{ name := "WORDS", type := (.object "java/lang/invoke/VarHandle"), accessFlags := 26, slot := 0, constantValue := 0 }, { name := "ONES", type := .long, accessFlags := 26, slot := 1, constantValue := 0 }, { name := "LOWS", type := .long, accessFlags := 26, slot := 2, constantValue := 0 }, { name := "HIGHS", type := .long, accessFlags := 26, slot := 3, constantValue := 0 }, { name := "ZEROS", type := .long, accessFlags := 26, slot := 4, constantValue := 0 }, { name := "PAST_NINE", type := .long, accessFlags := 26, slot := 5, constantValue := 0 }, { name := "DIGIT_VALUES", type := .long, accessFlags := 26, slot := 6, constantValue := 0 }]
  methods := #[k2m0, k2m1]
  instanceTypes := #[]
  staticTypes := #[(.object "java/lang/invoke/VarHandle"), .long, .long, .long, .long, .long, .long]
  resolved := Array.replicate 103 none
  statics := none }

def pool3 : Array CpInfo := pool [(1, u "java/lang/Cloneable"), (0, .class_ 1), (0, u "java/lang/Object"), (0, .class_ 3)] 3

/-- java/lang/Cloneable -/
def k3 : Class := { plain "java/lang/Cloneable" (some 0) with
  accessFlags := 1537
  interfaces := #[]
  cf := some (fileOf pool3 2 #[] #[] 1537 4 #[] #[])
  fields := #[]
  methods := #[]
  instanceTypes := #[]
  staticTypes := #[]
  resolved := Array.replicate 8 none
  statics := none }

def pool4 : Array CpInfo := pool [(1, u "java/io/Serializable"), (0, .class_ 1), (0, u "java/lang/Object"), (0, .class_ 3)] 3

/-- java/io/Serializable -/
def k4 : Class := { plain "java/io/Serializable" (some 0) with
  accessFlags := 1537
  interfaces := #[]
  cf := some (fileOf pool4 2 #[] #[] 1537 4 #[] #[])
  fields := #[]
  methods := #[]
  instanceTypes := #[]
  staticTypes := #[]
  resolved := Array.replicate 8 none
  statics := none }

/-- the primitive byte -/
def k5 : Class := { plain "byte" none with kind := .primitive 'B', accessFlags := 0x411 }
/-- [B -/
def k6 : Class := { plain "[B" (some 0) with kind := .array 5 .byte, interfaces := #[3, 4], accessFlags := 1041 }

/-- the primitive int -/
def k7 : Class := { plain "int" none with kind := .primitive 'I', accessFlags := 0x411 }
/-- [I -/
def k8 : Class := { plain "[I" (some 0) with kind := .array 7 .int, interfaces := #[3, 4], accessFlags := 1041 }

def heap : Heap := #[]
def classes : Array Class := #[k0, k1, k2, k3, k4, k5, k6, k7, k8]
def interned : List (Array UInt16 × Addr) := []
def slotsUsed : Nat := 0
def theMethod : MethodId := ⟨1, 2⟩
def args0 : Array Value := #[.long 5, .long 300, .int 7]
def aboutOver (below : List Frame) : State where
  vm := { classes := classes, interned := interned.toArray }
  heap := heap
  slotsUsed := slotsUsed
  threads := #[{ frames := .invoking theMethod args0 :: below }]
def below0 : List Frame := [.native { method := ⟨0, 0⟩, args := #[] }]
def about1 : State := aboutOver below0
def p0 : Program := .bare "" "" ""
def e0 : Env := launch0.env 0 0 0
theorem w_frames : about1.frames = Frame.invoking theMethod args0 :: below0 := rfl
set_option maxRecDepth 65536 in
theorem w_args : argsFit about1.vm theMethod args0 = true := by decide +kernel
set_option maxRecDepth 65536 in
theorem w_heap : heapFits about1 = true := by decide +kernel
set_option maxRecDepth 65536 in
theorem w_runnable : about1.curStatus? = some .runnable := by decide +kernel
set_option maxRecDepth 65536 in
theorem w_alone : about1.alone = true := by decide +kernel
set_option maxRecDepth 65536 in
theorem w_named : about1.methodNamed? x = some theMethod := by decide +kernel
set_option maxRecDepth 65536 in
theorem w_hears : about1.hears theMethod below0 = true := by decide +kernel
set_option maxRecDepth 65536 in
theorem w_ripe : about1.ripe theMethod args0 below0 = true := by decide +kernel
theorem w_running : about1.status = .running := rfl
set_option maxRecDepth 65536 in
theorem w_room : about1.hasRoom e0.platform room_1 = true :=
  launch0.hasRoom_least _ room_1 (by decide +kernel) (by decide +kernel) (by decide +kernel) (by decide +kernel) (by decide +kernel) (by decide +kernel)
theorem allAtoms_all (ts : List Jvm.Cond) (a : Array Jvm.Value) (st : Jvm.State) : (allAtoms ts).before a st = ts.all (fun c => c.before a st) := by
  induction ts with
  | nil => rfl
  | cons c t ih =>
    show (Jvm.Cond.and c (allAtoms t)).before a st = _
    rw [Jvm.Cond.before_and, ih, List.all_cons]
def words1 : List Jvm.Cond := Jvm.Cond.code x code maxLocals ret :: tables_1
/-- a 'code' word, met by the world's own term for the bytes: nothing is compared byte by byte -/
theorem code_word {y : MethodName} {bytes : ByteArray} {mx : Nat} {rt : Option FieldType} {a : Array Value} {s : State} {m : MethodId} {meth : Method} {c : Code} (h1 : s.methodNamed? y = some m) (h2 : s.vm.method? m = some meth) (h3 : meth.code = some c) (h4 : c.code = bytes)
    (h5 : (c.maxLocals == mx && c.exceptionTable.isEmpty && decide (c.maxStack ≤ mostOperands) && decide (meth.sig.returnType = rt) && !meth.locks && decide (parseMethodDescriptor y.desc = some meth.sig)) = true) : (Jvm.Cond.code y bytes mx rt).before a s = true := by
  simp only [Bool.and_eq_true, beq_iff_eq, Bool.not_eq_true', decide_eq_true_eq] at h5
  obtain ⟨⟨⟨⟨⟨g1, g2⟩, g3⟩, g4⟩, g5⟩, g6⟩ := h5
  simp [Cond.before, Cond.holds, Cond.value, h1, h2, h3, h4, g1, g2, g3, g4, g5, g6]
def isCode : Jvm.Cond → Bool
  | .code _ _ _ _ => true
  | _ => false
theorem all_split {L : List Jvm.Cond} {P : Jvm.Cond → Bool} (h1 : L.all (fun c => isCode c || P c) = true) (h2 : ∀ c ∈ L.filter isCode, P c = true) : L.all P = true := by
  refine List.all_eq_true.mpr fun c hc => ?_
  have h := List.all_eq_true.mp h1 c hc
  rcases Bool.eq_false_or_eq_true (isCode c) with hi | hi
  · exact h2 c (List.mem_filter.mpr ⟨hc, hi⟩)
  · simpa [hi] using h
set_option maxRecDepth 65536 in
theorem w_c0 : (Jvm.Cond.code x code maxLocals ret).before args0 about1 = true := code_word (m := ⟨1, 2⟩) (meth := k1m2) (c := k1c2) (by decide +kernel) rfl rfl rfl (by decide +kernel)
set_option maxRecDepth 65536 in
theorem w_c1 : (Jvm.Cond.code ({ cls := "com/example/tandem_scroll/tandemscroll/formats/BytesValuePinLaw", name := "digit", desc := "(JI)I" } : Jvm.MethodName) method_2_code (3 : Nat) (Option.some Jvm.ClassFile.FieldType.int)).before args0 about1 = true := code_word (m := ⟨1, 1⟩) (meth := k1m1) (c := k1c1) (by decide +kernel) rfl rfl rfl (by decide +kernel)
set_option maxRecDepth 65536 in
theorem w_c2 : (Jvm.Cond.code ({ cls := "com/example/tandem_scroll/tandemscroll/formats/Bytes", name := "value", desc := "(JI)J" } : Jvm.MethodName) prog_20_method_7_code (9 : Nat) (Option.some Jvm.ClassFile.FieldType.long)).before args0 about1 = true := code_word (m := ⟨2, 1⟩) (meth := k2m1) (c := k2c1) (by decide +kernel) rfl rfl rfl (by decide +kernel)
def codes1 : List Jvm.Cond := [Jvm.Cond.code x code maxLocals ret, Jvm.Cond.code ({ cls := "com/example/tandem_scroll/tandemscroll/formats/BytesValuePinLaw", name := "digit", desc := "(JI)I" } : Jvm.MethodName) method_2_code (3 : Nat) (Option.some Jvm.ClassFile.FieldType.int), Jvm.Cond.code ({ cls := "com/example/tandem_scroll/tandemscroll/formats/Bytes", name := "value", desc := "(JI)J" } : Jvm.MethodName) prog_20_method_7_code (9 : Nat) (Option.some Jvm.ClassFile.FieldType.long)]
set_option maxRecDepth 65536 in
theorem codes_eq : words1.filter isCode = codes1 := rfl
theorem w_codes : ∀ c ∈ words1.filter isCode, c.before args0 about1 = true := by
  rw [codes_eq]
  intro c hc
  simp only [codes1, List.mem_cons, List.not_mem_nil, or_false] at hc
  rcases hc with rfl | rfl | rfl
  · exact w_c0
  · exact w_c1
  · exact w_c2
set_option maxRecDepth 65536 in
theorem w_t1 : words1.all (fun c => isCode c || c.before args0 about1) = true := by decide +kernel
theorem w_tables : (allAtoms (Jvm.Cond.code x code maxLocals ret :: tables_1)).before args0 about1 = true := by
  rw [allAtoms_all]
  show words1.all (fun c => c.before args0 about1) = true
  refine all_split ?_ w_codes
  rw [w_t1]
set_option maxRecDepth 65536 in
theorem w_case : (Jvm.Cond.and given_1 narrow_1).before args0 about1 = true := by decide +kernel
theorem w_applies : (headSpec (Jvm.Cond.code x code maxLocals ret :: tables_1) room_1).applies x e0.platform about1 = true :=
  (Spec.applies_iff w_frames).mpr ⟨w_running, w_runnable, w_alone, w_named, w_hears, w_ripe, w_room, w_tables⟩
theorem atStart : AtStart classFile x code maxLocals ret World_1 tables_1 room_1 Calls_1 rest_1 Pre_1 launch0 p0 e0 about1 theMethod args0 below0 :=
  ⟨lists_1, trivial, launch0.admits_env _ _ _, launch0.least_env, fairChoices_fair.cas, fairChoices_fair.clock, w_frames, w_args, w_heap, w_applies, trivial, trivial, w_case⟩
end start1
theorem witness_1 : WitnessClaimed_1 := ⟨start1.p0, start1.e0, start1.about1, start1.theMethod, start1.args0, start1.below0, start1.atStart⟩
end Jvm.Pilot.@@N@@
