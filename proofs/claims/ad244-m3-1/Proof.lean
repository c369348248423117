import JvmDerived
import JvmDerived.Pilot.@@N@@Statement
import JvmDerived.Pilot.@@N@@Code
set_option linter.unusedVariables false
set_option linter.unusedSimpArgs false
namespace Jvm.RoadKit
open Sem ClassFile Op Lib Jvm.Stand Jvm.Free Jvm.LawKit
section New
variable {p : Program} {l : Launch} {e : Env} {R : Room} {s : State} {m : MethodId} {args : Array Value} {below : List Frame} {meth : Method} {c : Code} {T : State} {locs : List Loc} {cells slots : Nat}
theorem retI (X : Stand p l e R s m args below meth c T locs cells slots) (hx : p.tables.exec = Jvm.exec) {pc : Nat} {Ls : Array Slot} {z : Int32} {rest : List Value} (hret : meth.sig.returnType = some .int) (hd : decode c.code pc = .ok (.ireturn, 1)) {fs : List Frame}
    (hl : ∀ (f : JFrame) (acts : List Action), f.method = m → f.locked = none → f.entered = [] → (doReturn e (T.setTop f) acts (some (.int z))).1 = T.setFrames fs) : Steps p.tables e below (T.setTop (mkF m pc Ls (.int z :: rest))) (T.setFrames fs) := by
  have hm' : T.vm.method? m = some meth := X.method'
  have hn : narrow .int (.int z) = .int z := rfl
  show Steps p.tables e below (T.setTop { method := m, pc := pc, locals := Ls, stack := _ :: rest, locked := none }) _
  jvm_step X.here [X.here.top, hx, hd, hm', hret, hn]
  first | (intro acts; rw [hl _ acts rfl rfl rfl]) | rw [hl _ _ rfl rfl rfl]
  exact Steps.refl _
end New
end Jvm.RoadKit
namespace Jvm.Pilot.@@N@@
open Jvm Jvm.ClassFile Sem Op Lib Jvm.Free Jvm.Stand Jvm.LawKit Jvm.RoadKit Bundle Jvm.Pilot.@@N@@.Jvm.D
theorem own_nar0 : nar .boolean (0 : Int32) = (0 : Int32) := rfl
theorem own_nar1 : nar .boolean (1 : Int32) = (1 : Int32) := rfl
def usL (x : Int64) (k : Int32) : Int64 := (x.toUInt64 >>> (k &&& 0x3f).toInt64.toUInt64).toInt64
def lenG : Nat → Int32 → Int64 → Int32
  | 0, n, _ => n
  | k + 1, n, x => if x = 0 then n else lenG k (n + (1 : Int32)) (usL x 7)
def lenF (v : Int64) : Int32 := lenG 9 1 (usL v 7)
def grF (v : Int64) : Int32 := if usL v 7 = 0 then 1 else if usL v 14 = 0 then 2 else if usL v 21 = 0 then 3 else if usL v 28 = 0 then 4 else if usL v 35 = 0 then 5 else if usL v 42 = 0 then 6 else if usL v 49 = 0 then 7 else if usL v 56 = 0 then 8 else if usL v 63 = 0 then 9 else 10
def vF (a : Int64) (s : Int32) : Int64 := usL a (s &&& (63 : Int32))
def lawF (a : Int64) (s : Int32) : Int32 := if lenF (vF a s) = grF (vF a s) then (if lenF (vF a s) < 1 then 0 else if (10 : Int32) < lenF (vF a s) then 0 else 1) else 0
abbrev nt (x : Int64) : Nat := x.toBitVec.toNat
theorem nt_shr (x : Int64) (q : Int32) (k : Nat) (hk : q.toBitVec.toNat % 64 = k) : nt (usL x q) = nt x / 2 ^ k := by
  have h5 := (sm64 q k hk).2
  show (x.toBitVec >>> ((q &&& 0x3f).toInt64.toBitVec % 64)).toNat = _
  rw [BitVec.ushiftRight_eq', BitVec.toNat_ushiftRight, Nat.shiftRight_eq_div_pow, BitVec.toNat_umod, (sm64 q k hk).1, BitVec.toNat_ofNat]
  congr 2
  show k % 2 ^ 64 % 64 = k
  omega
theorem nt_inj {x y : Int64} (h : nt x = nt y) : x = y := Int64.toBitVec_inj.mp (BitVec.eq_of_toNat_eq h)
theorem nt_zero {x : Int64} (h : nt x = 0) : x = 0 := nt_inj h
theorem us_us (v : Int64) (q r : Int32) (k : Nat) (hk : q.toBitVec.toNat % 64 = k) (hr : r.toBitVec.toNat % 64 = k + 7) : usL (usL v q) 7 = usL v r := by
  apply nt_inj
  rw [nt_shr _ 7 7 (by decide), nt_shr _ q k hk, nt_shr _ r (k + 7) hr, Nat.div_div_eq_div_mul, ← Nat.pow_add]
theorem lenG_s (k : Nat) (n n' : Int32) (x : Int64) (h : n + (1 : Int32) = n') : lenG (k + 1) n x = if x = 0 then n else lenG k n' (usL x 7) := by rw [← h]; rfl
theorem len_gr (v : Int64) : lenF v = grF v := by
  unfold lenF
  rw [lenG_s 8 1 2 _ (by decide), us_us v 7 14 7 (by decide) (by decide), lenG_s 7 2 3 _ (by decide), us_us v 14 21 14 (by decide) (by decide), lenG_s 6 3 4 _ (by decide), us_us v 21 28 21 (by decide) (by decide), lenG_s 5 4 5 _ (by decide), us_us v 28 35 28 (by decide) (by decide), lenG_s 4 5 6 _ (by decide), us_us v 35 42 35 (by decide) (by decide), lenG_s 3 6 7 _ (by decide), us_us v 42 49 42 (by decide) (by decide), lenG_s 2 7 8 _ (by decide), us_us v 49 56 49 (by decide) (by decide), lenG_s 1 8 9 _ (by decide), us_us v 56 63 56 (by decide) (by decide), lenG_s 0 9 10 _ (by decide)]
  rfl
theorem gr_rng (v : Int64) : ¬ grF v < 1 ∧ ¬ (10 : Int32) < grF v := by
  unfold grF
  repeat' split
  all_goals decide
theorem lawF_one (a : Int64) (s : Int32) : lawF a s = 1 := by
  unfold lawF
  rw [if_pos (len_gr _), len_gr, if_neg (gr_rng _).1, if_neg (gr_rng _).2]
theorem turns (v : Int64) : nt (usL v 7) < 2 ^ (7 * 9) := by
  have h : nt v < 2 ^ 64 := v.toBitVec.isLt
  rw [nt_shr _ 7 7 (by decide)]
  omega
theorem turn {x : Int64} {k : Nat} (h : nt x < 2 ^ (7 * (k + 1))) : nt (usL x 7) < 2 ^ (7 * k) := by
  rw [nt_shr _ 7 7 (by decide)]
  exact Nat.div_lt_of_lt_mul (by rw [← Nat.pow_add]; exact Nat.lt_of_lt_of_eq h (by congr 1; omega))
theorem d_method_2_0 : decode method_2_code 0 = .ok (.lload_n 0, 1) := by decide +kernel
theorem d_method_2_1 : decode method_2_code 1 = .ok (.bipush 7, 2) := by decide +kernel
theorem d_method_2_3 : decode method_2_code 3 = .ok (.lushr, 1) := by decide +kernel
theorem d_method_2_4 : decode method_2_code 4 = .ok (.lconst 0, 1) := by decide +kernel
theorem d_method_2_5 : decode method_2_code 5 = .ok (.lcmp, 1) := by decide +kernel
theorem d_method_2_6 : decode method_2_code 6 = .ok (.ifCond .ne 5, 3) := by decide +kernel
theorem d_method_2_9 : decode method_2_code 9 = .ok (.iconst 1, 1) := by decide +kernel
theorem d_method_2_10 : decode method_2_code 10 = .ok (.ireturn, 1) := by decide +kernel
theorem d_method_2_11 : decode method_2_code 11 = .ok (.lload_n 0, 1) := by decide +kernel
theorem d_method_2_12 : decode method_2_code 12 = .ok (.bipush 14, 2) := by decide +kernel
theorem d_method_2_14 : decode method_2_code 14 = .ok (.lushr, 1) := by decide +kernel
theorem d_method_2_15 : decode method_2_code 15 = .ok (.lconst 0, 1) := by decide +kernel
theorem d_method_2_16 : decode method_2_code 16 = .ok (.lcmp, 1) := by decide +kernel
theorem d_method_2_17 : decode method_2_code 17 = .ok (.ifCond .ne 5, 3) := by decide +kernel
theorem d_method_2_20 : decode method_2_code 20 = .ok (.iconst 2, 1) := by decide +kernel
theorem d_method_2_21 : decode method_2_code 21 = .ok (.ireturn, 1) := by decide +kernel
theorem d_method_2_22 : decode method_2_code 22 = .ok (.lload_n 0, 1) := by decide +kernel
theorem d_method_2_23 : decode method_2_code 23 = .ok (.bipush 21, 2) := by decide +kernel
theorem d_method_2_25 : decode method_2_code 25 = .ok (.lushr, 1) := by decide +kernel
theorem d_method_2_26 : decode method_2_code 26 = .ok (.lconst 0, 1) := by decide +kernel
theorem d_method_2_27 : decode method_2_code 27 = .ok (.lcmp, 1) := by decide +kernel
theorem d_method_2_28 : decode method_2_code 28 = .ok (.ifCond .ne 5, 3) := by decide +kernel
theorem d_method_2_31 : decode method_2_code 31 = .ok (.iconst 3, 1) := by decide +kernel
theorem d_method_2_32 : decode method_2_code 32 = .ok (.ireturn, 1) := by decide +kernel
theorem d_method_2_33 : decode method_2_code 33 = .ok (.lload_n 0, 1) := by decide +kernel
theorem d_method_2_34 : decode method_2_code 34 = .ok (.bipush 28, 2) := by decide +kernel
theorem d_method_2_36 : decode method_2_code 36 = .ok (.lushr, 1) := by decide +kernel
theorem d_method_2_37 : decode method_2_code 37 = .ok (.lconst 0, 1) := by decide +kernel
theorem d_method_2_38 : decode method_2_code 38 = .ok (.lcmp, 1) := by decide +kernel
theorem d_method_2_39 : decode method_2_code 39 = .ok (.ifCond .ne 5, 3) := by decide +kernel
theorem d_method_2_42 : decode method_2_code 42 = .ok (.iconst 4, 1) := by decide +kernel
theorem d_method_2_43 : decode method_2_code 43 = .ok (.ireturn, 1) := by decide +kernel
theorem d_method_2_44 : decode method_2_code 44 = .ok (.lload_n 0, 1) := by decide +kernel
theorem d_method_2_45 : decode method_2_code 45 = .ok (.bipush 35, 2) := by decide +kernel
theorem d_method_2_47 : decode method_2_code 47 = .ok (.lushr, 1) := by decide +kernel
theorem d_method_2_48 : decode method_2_code 48 = .ok (.lconst 0, 1) := by decide +kernel
theorem d_method_2_49 : decode method_2_code 49 = .ok (.lcmp, 1) := by decide +kernel
theorem d_method_2_50 : decode method_2_code 50 = .ok (.ifCond .ne 5, 3) := by decide +kernel
theorem d_method_2_53 : decode method_2_code 53 = .ok (.iconst 5, 1) := by decide +kernel
theorem d_method_2_54 : decode method_2_code 54 = .ok (.ireturn, 1) := by decide +kernel
theorem d_method_2_55 : decode method_2_code 55 = .ok (.lload_n 0, 1) := by decide +kernel
theorem d_method_2_56 : decode method_2_code 56 = .ok (.bipush 42, 2) := by decide +kernel
theorem d_method_2_58 : decode method_2_code 58 = .ok (.lushr, 1) := by decide +kernel
theorem d_method_2_59 : decode method_2_code 59 = .ok (.lconst 0, 1) := by decide +kernel
theorem d_method_2_60 : decode method_2_code 60 = .ok (.lcmp, 1) := by decide +kernel
theorem d_method_2_61 : decode method_2_code 61 = .ok (.ifCond .ne 6, 3) := by decide +kernel
theorem d_method_2_64 : decode method_2_code 64 = .ok (.bipush 6, 2) := by decide +kernel
theorem d_method_2_66 : decode method_2_code 66 = .ok (.ireturn, 1) := by decide +kernel
theorem d_method_2_67 : decode method_2_code 67 = .ok (.lload_n 0, 1) := by decide +kernel
theorem d_method_2_68 : decode method_2_code 68 = .ok (.bipush 49, 2) := by decide +kernel
theorem d_method_2_70 : decode method_2_code 70 = .ok (.lushr, 1) := by decide +kernel
theorem d_method_2_71 : decode method_2_code 71 = .ok (.lconst 0, 1) := by decide +kernel
theorem d_method_2_72 : decode method_2_code 72 = .ok (.lcmp, 1) := by decide +kernel
theorem d_method_2_73 : decode method_2_code 73 = .ok (.ifCond .ne 6, 3) := by decide +kernel
theorem d_method_2_76 : decode method_2_code 76 = .ok (.bipush 7, 2) := by decide +kernel
theorem d_method_2_78 : decode method_2_code 78 = .ok (.ireturn, 1) := by decide +kernel
theorem d_method_2_79 : decode method_2_code 79 = .ok (.lload_n 0, 1) := by decide +kernel
theorem d_method_2_80 : decode method_2_code 80 = .ok (.bipush 56, 2) := by decide +kernel
theorem d_method_2_82 : decode method_2_code 82 = .ok (.lushr, 1) := by decide +kernel
theorem d_method_2_83 : decode method_2_code 83 = .ok (.lconst 0, 1) := by decide +kernel
theorem d_method_2_84 : decode method_2_code 84 = .ok (.lcmp, 1) := by decide +kernel
theorem d_method_2_85 : decode method_2_code 85 = .ok (.ifCond .ne 6, 3) := by decide +kernel
theorem d_method_2_88 : decode method_2_code 88 = .ok (.bipush 8, 2) := by decide +kernel
theorem d_method_2_90 : decode method_2_code 90 = .ok (.ireturn, 1) := by decide +kernel
theorem d_method_2_91 : decode method_2_code 91 = .ok (.lload_n 0, 1) := by decide +kernel
theorem d_method_2_92 : decode method_2_code 92 = .ok (.bipush 63, 2) := by decide +kernel
theorem d_method_2_94 : decode method_2_code 94 = .ok (.lushr, 1) := by decide +kernel
theorem d_method_2_95 : decode method_2_code 95 = .ok (.lconst 0, 1) := by decide +kernel
theorem d_method_2_96 : decode method_2_code 96 = .ok (.lcmp, 1) := by decide +kernel
theorem d_method_2_97 : decode method_2_code 97 = .ok (.ifCond .ne 6, 3) := by decide +kernel
theorem d_method_2_100 : decode method_2_code 100 = .ok (.bipush 9, 2) := by decide +kernel
theorem d_method_2_102 : decode method_2_code 102 = .ok (.ireturn, 1) := by decide +kernel
theorem d_method_2_103 : decode method_2_code 103 = .ok (.bipush 10, 2) := by decide +kernel
theorem d_method_2_105 : decode method_2_code 105 = .ok (.ireturn, 1) := by decide +kernel
theorem pn_0 : plainName "com/example/pirm/pirm/wire/VarintLengthPinLaw" = true := by first | (simp [plainName, overriddenIn]; done) | decide +kernel
theorem ef_gr (m : MethodId) (xv : Int64) : entryFrame m #[(.long xv)] 2 = mkF m 0 #[.val (.long xv), .second] [] := by first | (simp [entryFrame, mkF, argsToLocals, Value.category]; done) | rfl
def Q_gr (Z : State) (xv : Int64) (h0 : Heap) (n0 : Nat) (v : Option Value) (h : Heap) (L : List Loc) : Prop := v = some (.int (grF xv)) ∧ Fr n0 L ∧ h = h0
set_option maxRecDepth 65536 in
set_option maxHeartbeats 40000000 in
theorem rm_gr (l : Launch) (Z : State) (a0 : Array Value) (hw : ∀ d ∈ tables_1, d.before a0 Z = true) (ws : List Jvm.Cond) (xv : Int64) (h0 : Heap) (n0 : Nat) (Z0 : n0 ≤ h0.size) :
    MetFree l (⟨"com/example/pirm/pirm/wire/VarintLengthPinLaw", "groups", "(J)I"⟩ : MethodName) (head1 (Jvm.Cond.code (⟨"com/example/pirm/pirm/wire/VarintLengthPinLaw", "groups", "(J)I"⟩ : MethodName) method_2_code 2 (some .int) :: ws) ({ frames := 0, cells := 0, slots := 0, locals := 0 } : Room)) (fun a U => a = #[(.long xv)] ∧ Z.Warmed39 U.vm ∧ U.heap = h0) (fun _ _ _ _ _ => True) (fun _ U o U' => ∃ v L, o = .returned v ∧ Q_gr Z xv h0 n0 v U'.heap L ∧ FrameEnd U o U' L ({ frames := 0, cells := 0, slots := 0, locals := 0 } : Room).cells ({ frames := 0, cells := 0, slots := 0, locals := 0 } : Room).slots) := by
  refine MetFree.of_bodySF (plainFor_of_name pn_0) hisR ?_
  intro p e s m args below meth c s₁ Bd hml0 hP hK
  obtain ⟨rfl, hZ, hh⟩ := hP
  have hx := Bd.exec
  have hby := Bd.bytes
  have hml : c.maxLocals = 2 := hml0
  have hown : s.vm.findClass "com/example/pirm/pirm/wire/VarintLengthPinLaw" = some m.cls := findClass_of_methodNamed Bd.named
  have X0 : Stand p l e ({ frames := 0, cells := 0, slots := 0, locals := 0 } : Room) s m #[(.long xv)] below meth c s₁ [] 0 0 := Stand.of_body Bd
  have e0 : s₁.heap = h0 := by rw [← hh, Bd.state]; rfl
  have N0 := Fr.nil n0
  have pre0 : ∀ t, Steps p.tables e below (s₁.setTop (mkF m 0 #[.val (.long xv), .second] [])) t → Steps p.tables e below (s₁.setTop (entryFrame m #[(.long xv)] 2)) t := fun t k => castTop (ef_gr m xv) k
  obtain ⟨fs, hr, hrun, hended, hW, hsame⟩ := X0.leave (v := some (.int (grF xv))) (fun h => by rw [Bd.returns] at h; cases h)
  refine ⟨_, _, pre0 _ ?_, hrun, hended, _, _, rfl, ?_, ⟨_, rfl⟩, hW, hsame.mono (by decide) (by decide)⟩
  · show Steps p.tables e below (s₁.setTop (mkF m 0 #[.val (.long xv), .second] [])) _
    refine XS.lloadN X0.here hx rfl (hb hby d_method_2_0) rfl ?_
    show Steps p.tables e below (s₁.setTop (mkF m 1 #[.val (.long xv), .second] [(.long xv)])) _
    refine XS.bipush X0.here hx rfl (hb hby d_method_2_1) ?_
    show Steps p.tables e below (s₁.setTop (mkF m 3 #[.val (.long xv), .second] [(.int (7 : Int32)), (.long xv)])) _
    refine XS.lushr X0.here hx rfl (hb hby d_method_2_3) rfl ?_
    show Steps p.tables e below (s₁.setTop (mkF m 4 #[.val (.long xv), .second] [(.long (usL xv (7 : Int32)))])) _
    refine XS.lconst X0.here hx rfl (hb hby d_method_2_4) ?_
    show Steps p.tables e below (s₁.setTop (mkF m 5 #[.val (.long xv), .second] [(.long (0 : Int64)), (.long (usL xv (7 : Int32)))])) _
    refine XS.lcmp X0.here hx rfl (hb hby d_method_2_5) rfl ?_
    show Steps p.tables e below (s₁.setTop (mkF m 6 #[.val (.long xv), .second] [(.int (lcmpW (usL xv (7 : Int32)) (0 : Int64)))])) _
    by_cases h6 : (usL xv (7 : Int32)) = (0 : Int64)
    · refine XS.ifNo X0.here hx rfl (hb hby d_method_2_6) rfl ((if0 _ _).trans (teq ((lw_eq _ _).2 h6)).2) ?_
      show Steps p.tables e below (s₁.setTop (mkF m 9 #[.val (.long xv), .second] [])) _
      refine XS.iconst X0.here hx rfl (hb hby d_method_2_9) ?_
      show Steps p.tables e below (s₁.setTop (mkF m 10 #[.val (.long xv), .second] [(.int (1 : Int32))])) _
      exact retI X0 hx Bd.returns (hb hby d_method_2_10) (by rw [show (1 : Int32) = (grF xv) from by simp only [grF, h6, eq_self, if_true, if_false]]; exact hr)
    · refine XS.ifYes X0.here hx rfl (pc0 := 6) (pc' := 11) rfl (hb hby d_method_2_6) rfl ((if0 _ _).trans (feq (fun q => h6 ((lw_eq _ _).1 q))).2) (by decide) (by decide) ?_
      show Steps p.tables e below (s₁.setTop (mkF m 11 #[.val (.long xv), .second] [])) _
      refine XS.lloadN X0.here hx rfl (hb hby d_method_2_11) rfl ?_
      show Steps p.tables e below (s₁.setTop (mkF m 12 #[.val (.long xv), .second] [(.long xv)])) _
      refine XS.bipush X0.here hx rfl (hb hby d_method_2_12) ?_
      show Steps p.tables e below (s₁.setTop (mkF m 14 #[.val (.long xv), .second] [(.int (14 : Int32)), (.long xv)])) _
      refine XS.lushr X0.here hx rfl (hb hby d_method_2_14) rfl ?_
      show Steps p.tables e below (s₁.setTop (mkF m 15 #[.val (.long xv), .second] [(.long (usL xv (14 : Int32)))])) _
      refine XS.lconst X0.here hx rfl (hb hby d_method_2_15) ?_
      show Steps p.tables e below (s₁.setTop (mkF m 16 #[.val (.long xv), .second] [(.long (0 : Int64)), (.long (usL xv (14 : Int32)))])) _
      refine XS.lcmp X0.here hx rfl (hb hby d_method_2_16) rfl ?_
      show Steps p.tables e below (s₁.setTop (mkF m 17 #[.val (.long xv), .second] [(.int (lcmpW (usL xv (14 : Int32)) (0 : Int64)))])) _
      by_cases h17 : (usL xv (14 : Int32)) = (0 : Int64)
      · refine XS.ifNo X0.here hx rfl (hb hby d_method_2_17) rfl ((if0 _ _).trans (teq ((lw_eq _ _).2 h17)).2) ?_
        show Steps p.tables e below (s₁.setTop (mkF m 20 #[.val (.long xv), .second] [])) _
        refine XS.iconst X0.here hx rfl (hb hby d_method_2_20) ?_
        show Steps p.tables e below (s₁.setTop (mkF m 21 #[.val (.long xv), .second] [(.int (2 : Int32))])) _
        exact retI X0 hx Bd.returns (hb hby d_method_2_21) (by rw [show (2 : Int32) = (grF xv) from by simp only [grF, h6, h17, eq_self, if_true, if_false]]; exact hr)
      · refine XS.ifYes X0.here hx rfl (pc0 := 17) (pc' := 22) rfl (hb hby d_method_2_17) rfl ((if0 _ _).trans (feq (fun q => h17 ((lw_eq _ _).1 q))).2) (by decide) (by decide) ?_
        show Steps p.tables e below (s₁.setTop (mkF m 22 #[.val (.long xv), .second] [])) _
        refine XS.lloadN X0.here hx rfl (hb hby d_method_2_22) rfl ?_
        show Steps p.tables e below (s₁.setTop (mkF m 23 #[.val (.long xv), .second] [(.long xv)])) _
        refine XS.bipush X0.here hx rfl (hb hby d_method_2_23) ?_
        show Steps p.tables e below (s₁.setTop (mkF m 25 #[.val (.long xv), .second] [(.int (21 : Int32)), (.long xv)])) _
        refine XS.lushr X0.here hx rfl (hb hby d_method_2_25) rfl ?_
        show Steps p.tables e below (s₁.setTop (mkF m 26 #[.val (.long xv), .second] [(.long (usL xv (21 : Int32)))])) _
        refine XS.lconst X0.here hx rfl (hb hby d_method_2_26) ?_
        show Steps p.tables e below (s₁.setTop (mkF m 27 #[.val (.long xv), .second] [(.long (0 : Int64)), (.long (usL xv (21 : Int32)))])) _
        refine XS.lcmp X0.here hx rfl (hb hby d_method_2_27) rfl ?_
        show Steps p.tables e below (s₁.setTop (mkF m 28 #[.val (.long xv), .second] [(.int (lcmpW (usL xv (21 : Int32)) (0 : Int64)))])) _
        by_cases h28 : (usL xv (21 : Int32)) = (0 : Int64)
        · refine XS.ifNo X0.here hx rfl (hb hby d_method_2_28) rfl ((if0 _ _).trans (teq ((lw_eq _ _).2 h28)).2) ?_
          show Steps p.tables e below (s₁.setTop (mkF m 31 #[.val (.long xv), .second] [])) _
          refine XS.iconst X0.here hx rfl (hb hby d_method_2_31) ?_
          show Steps p.tables e below (s₁.setTop (mkF m 32 #[.val (.long xv), .second] [(.int (3 : Int32))])) _
          exact retI X0 hx Bd.returns (hb hby d_method_2_32) (by rw [show (3 : Int32) = (grF xv) from by simp only [grF, h6, h17, h28, eq_self, if_true, if_false]]; exact hr)
        · refine XS.ifYes X0.here hx rfl (pc0 := 28) (pc' := 33) rfl (hb hby d_method_2_28) rfl ((if0 _ _).trans (feq (fun q => h28 ((lw_eq _ _).1 q))).2) (by decide) (by decide) ?_
          show Steps p.tables e below (s₁.setTop (mkF m 33 #[.val (.long xv), .second] [])) _
          refine XS.lloadN X0.here hx rfl (hb hby d_method_2_33) rfl ?_
          show Steps p.tables e below (s₁.setTop (mkF m 34 #[.val (.long xv), .second] [(.long xv)])) _
          refine XS.bipush X0.here hx rfl (hb hby d_method_2_34) ?_
          show Steps p.tables e below (s₁.setTop (mkF m 36 #[.val (.long xv), .second] [(.int (28 : Int32)), (.long xv)])) _
          refine XS.lushr X0.here hx rfl (hb hby d_method_2_36) rfl ?_
          show Steps p.tables e below (s₁.setTop (mkF m 37 #[.val (.long xv), .second] [(.long (usL xv (28 : Int32)))])) _
          refine XS.lconst X0.here hx rfl (hb hby d_method_2_37) ?_
          show Steps p.tables e below (s₁.setTop (mkF m 38 #[.val (.long xv), .second] [(.long (0 : Int64)), (.long (usL xv (28 : Int32)))])) _
          refine XS.lcmp X0.here hx rfl (hb hby d_method_2_38) rfl ?_
          show Steps p.tables e below (s₁.setTop (mkF m 39 #[.val (.long xv), .second] [(.int (lcmpW (usL xv (28 : Int32)) (0 : Int64)))])) _
          by_cases h39 : (usL xv (28 : Int32)) = (0 : Int64)
          · refine XS.ifNo X0.here hx rfl (hb hby d_method_2_39) rfl ((if0 _ _).trans (teq ((lw_eq _ _).2 h39)).2) ?_
            show Steps p.tables e below (s₁.setTop (mkF m 42 #[.val (.long xv), .second] [])) _
            refine XS.iconst X0.here hx rfl (hb hby d_method_2_42) ?_
            show Steps p.tables e below (s₁.setTop (mkF m 43 #[.val (.long xv), .second] [(.int (4 : Int32))])) _
            exact retI X0 hx Bd.returns (hb hby d_method_2_43) (by rw [show (4 : Int32) = (grF xv) from by simp only [grF, h6, h17, h28, h39, eq_self, if_true, if_false]]; exact hr)
          · refine XS.ifYes X0.here hx rfl (pc0 := 39) (pc' := 44) rfl (hb hby d_method_2_39) rfl ((if0 _ _).trans (feq (fun q => h39 ((lw_eq _ _).1 q))).2) (by decide) (by decide) ?_
            show Steps p.tables e below (s₁.setTop (mkF m 44 #[.val (.long xv), .second] [])) _
            refine XS.lloadN X0.here hx rfl (hb hby d_method_2_44) rfl ?_
            show Steps p.tables e below (s₁.setTop (mkF m 45 #[.val (.long xv), .second] [(.long xv)])) _
            refine XS.bipush X0.here hx rfl (hb hby d_method_2_45) ?_
            show Steps p.tables e below (s₁.setTop (mkF m 47 #[.val (.long xv), .second] [(.int (35 : Int32)), (.long xv)])) _
            refine XS.lushr X0.here hx rfl (hb hby d_method_2_47) rfl ?_
            show Steps p.tables e below (s₁.setTop (mkF m 48 #[.val (.long xv), .second] [(.long (usL xv (35 : Int32)))])) _
            refine XS.lconst X0.here hx rfl (hb hby d_method_2_48) ?_
            show Steps p.tables e below (s₁.setTop (mkF m 49 #[.val (.long xv), .second] [(.long (0 : Int64)), (.long (usL xv (35 : Int32)))])) _
            refine XS.lcmp X0.here hx rfl (hb hby d_method_2_49) rfl ?_
            show Steps p.tables e below (s₁.setTop (mkF m 50 #[.val (.long xv), .second] [(.int (lcmpW (usL xv (35 : Int32)) (0 : Int64)))])) _
            by_cases h50 : (usL xv (35 : Int32)) = (0 : Int64)
            · refine XS.ifNo X0.here hx rfl (hb hby d_method_2_50) rfl ((if0 _ _).trans (teq ((lw_eq _ _).2 h50)).2) ?_
              show Steps p.tables e below (s₁.setTop (mkF m 53 #[.val (.long xv), .second] [])) _
              refine XS.iconst X0.here hx rfl (hb hby d_method_2_53) ?_
              show Steps p.tables e below (s₁.setTop (mkF m 54 #[.val (.long xv), .second] [(.int (5 : Int32))])) _
              exact retI X0 hx Bd.returns (hb hby d_method_2_54) (by rw [show (5 : Int32) = (grF xv) from by simp only [grF, h6, h17, h28, h39, h50, eq_self, if_true, if_false]]; exact hr)
            · refine XS.ifYes X0.here hx rfl (pc0 := 50) (pc' := 55) rfl (hb hby d_method_2_50) rfl ((if0 _ _).trans (feq (fun q => h50 ((lw_eq _ _).1 q))).2) (by decide) (by decide) ?_
              show Steps p.tables e below (s₁.setTop (mkF m 55 #[.val (.long xv), .second] [])) _
              refine XS.lloadN X0.here hx rfl (hb hby d_method_2_55) rfl ?_
              show Steps p.tables e below (s₁.setTop (mkF m 56 #[.val (.long xv), .second] [(.long xv)])) _
              refine XS.bipush X0.here hx rfl (hb hby d_method_2_56) ?_
              show Steps p.tables e below (s₁.setTop (mkF m 58 #[.val (.long xv), .second] [(.int (42 : Int32)), (.long xv)])) _
              refine XS.lushr X0.here hx rfl (hb hby d_method_2_58) rfl ?_
              show Steps p.tables e below (s₁.setTop (mkF m 59 #[.val (.long xv), .second] [(.long (usL xv (42 : Int32)))])) _
              refine XS.lconst X0.here hx rfl (hb hby d_method_2_59) ?_
              show Steps p.tables e below (s₁.setTop (mkF m 60 #[.val (.long xv), .second] [(.long (0 : Int64)), (.long (usL xv (42 : Int32)))])) _
              refine XS.lcmp X0.here hx rfl (hb hby d_method_2_60) rfl ?_
              show Steps p.tables e below (s₁.setTop (mkF m 61 #[.val (.long xv), .second] [(.int (lcmpW (usL xv (42 : Int32)) (0 : Int64)))])) _
              by_cases h61 : (usL xv (42 : Int32)) = (0 : Int64)
              · refine XS.ifNo X0.here hx rfl (hb hby d_method_2_61) rfl ((if0 _ _).trans (teq ((lw_eq _ _).2 h61)).2) ?_
                show Steps p.tables e below (s₁.setTop (mkF m 64 #[.val (.long xv), .second] [])) _
                refine XS.bipush X0.here hx rfl (hb hby d_method_2_64) ?_
                show Steps p.tables e below (s₁.setTop (mkF m 66 #[.val (.long xv), .second] [(.int (6 : Int32))])) _
                exact retI X0 hx Bd.returns (hb hby d_method_2_66) (by rw [show (6 : Int32) = (grF xv) from by simp only [grF, h6, h17, h28, h39, h50, h61, eq_self, if_true, if_false]]; exact hr)
              · refine XS.ifYes X0.here hx rfl (pc0 := 61) (pc' := 67) rfl (hb hby d_method_2_61) rfl ((if0 _ _).trans (feq (fun q => h61 ((lw_eq _ _).1 q))).2) (by decide) (by decide) ?_
                show Steps p.tables e below (s₁.setTop (mkF m 67 #[.val (.long xv), .second] [])) _
                refine XS.lloadN X0.here hx rfl (hb hby d_method_2_67) rfl ?_
                show Steps p.tables e below (s₁.setTop (mkF m 68 #[.val (.long xv), .second] [(.long xv)])) _
                refine XS.bipush X0.here hx rfl (hb hby d_method_2_68) ?_
                show Steps p.tables e below (s₁.setTop (mkF m 70 #[.val (.long xv), .second] [(.int (49 : Int32)), (.long xv)])) _
                refine XS.lushr X0.here hx rfl (hb hby d_method_2_70) rfl ?_
                show Steps p.tables e below (s₁.setTop (mkF m 71 #[.val (.long xv), .second] [(.long (usL xv (49 : Int32)))])) _
                refine XS.lconst X0.here hx rfl (hb hby d_method_2_71) ?_
                show Steps p.tables e below (s₁.setTop (mkF m 72 #[.val (.long xv), .second] [(.long (0 : Int64)), (.long (usL xv (49 : Int32)))])) _
                refine XS.lcmp X0.here hx rfl (hb hby d_method_2_72) rfl ?_
                show Steps p.tables e below (s₁.setTop (mkF m 73 #[.val (.long xv), .second] [(.int (lcmpW (usL xv (49 : Int32)) (0 : Int64)))])) _
                by_cases h73 : (usL xv (49 : Int32)) = (0 : Int64)
                · refine XS.ifNo X0.here hx rfl (hb hby d_method_2_73) rfl ((if0 _ _).trans (teq ((lw_eq _ _).2 h73)).2) ?_
                  show Steps p.tables e below (s₁.setTop (mkF m 76 #[.val (.long xv), .second] [])) _
                  refine XS.bipush X0.here hx rfl (hb hby d_method_2_76) ?_
                  show Steps p.tables e below (s₁.setTop (mkF m 78 #[.val (.long xv), .second] [(.int (7 : Int32))])) _
                  exact retI X0 hx Bd.returns (hb hby d_method_2_78) (by rw [show (7 : Int32) = (grF xv) from by simp only [grF, h6, h17, h28, h39, h50, h61, h73, eq_self, if_true, if_false]]; exact hr)
                · refine XS.ifYes X0.here hx rfl (pc0 := 73) (pc' := 79) rfl (hb hby d_method_2_73) rfl ((if0 _ _).trans (feq (fun q => h73 ((lw_eq _ _).1 q))).2) (by decide) (by decide) ?_
                  show Steps p.tables e below (s₁.setTop (mkF m 79 #[.val (.long xv), .second] [])) _
                  refine XS.lloadN X0.here hx rfl (hb hby d_method_2_79) rfl ?_
                  show Steps p.tables e below (s₁.setTop (mkF m 80 #[.val (.long xv), .second] [(.long xv)])) _
                  refine XS.bipush X0.here hx rfl (hb hby d_method_2_80) ?_
                  show Steps p.tables e below (s₁.setTop (mkF m 82 #[.val (.long xv), .second] [(.int (56 : Int32)), (.long xv)])) _
                  refine XS.lushr X0.here hx rfl (hb hby d_method_2_82) rfl ?_
                  show Steps p.tables e below (s₁.setTop (mkF m 83 #[.val (.long xv), .second] [(.long (usL xv (56 : Int32)))])) _
                  refine XS.lconst X0.here hx rfl (hb hby d_method_2_83) ?_
                  show Steps p.tables e below (s₁.setTop (mkF m 84 #[.val (.long xv), .second] [(.long (0 : Int64)), (.long (usL xv (56 : Int32)))])) _
                  refine XS.lcmp X0.here hx rfl (hb hby d_method_2_84) rfl ?_
                  show Steps p.tables e below (s₁.setTop (mkF m 85 #[.val (.long xv), .second] [(.int (lcmpW (usL xv (56 : Int32)) (0 : Int64)))])) _
                  by_cases h85 : (usL xv (56 : Int32)) = (0 : Int64)
                  · refine XS.ifNo X0.here hx rfl (hb hby d_method_2_85) rfl ((if0 _ _).trans (teq ((lw_eq _ _).2 h85)).2) ?_
                    show Steps p.tables e below (s₁.setTop (mkF m 88 #[.val (.long xv), .second] [])) _
                    refine XS.bipush X0.here hx rfl (hb hby d_method_2_88) ?_
                    show Steps p.tables e below (s₁.setTop (mkF m 90 #[.val (.long xv), .second] [(.int (8 : Int32))])) _
                    exact retI X0 hx Bd.returns (hb hby d_method_2_90) (by rw [show (8 : Int32) = (grF xv) from by simp only [grF, h6, h17, h28, h39, h50, h61, h73, h85, eq_self, if_true, if_false]]; exact hr)
                  · refine XS.ifYes X0.here hx rfl (pc0 := 85) (pc' := 91) rfl (hb hby d_method_2_85) rfl ((if0 _ _).trans (feq (fun q => h85 ((lw_eq _ _).1 q))).2) (by decide) (by decide) ?_
                    show Steps p.tables e below (s₁.setTop (mkF m 91 #[.val (.long xv), .second] [])) _
                    refine XS.lloadN X0.here hx rfl (hb hby d_method_2_91) rfl ?_
                    show Steps p.tables e below (s₁.setTop (mkF m 92 #[.val (.long xv), .second] [(.long xv)])) _
                    refine XS.bipush X0.here hx rfl (hb hby d_method_2_92) ?_
                    show Steps p.tables e below (s₁.setTop (mkF m 94 #[.val (.long xv), .second] [(.int (63 : Int32)), (.long xv)])) _
                    refine XS.lushr X0.here hx rfl (hb hby d_method_2_94) rfl ?_
                    show Steps p.tables e below (s₁.setTop (mkF m 95 #[.val (.long xv), .second] [(.long (usL xv (63 : Int32)))])) _
                    refine XS.lconst X0.here hx rfl (hb hby d_method_2_95) ?_
                    show Steps p.tables e below (s₁.setTop (mkF m 96 #[.val (.long xv), .second] [(.long (0 : Int64)), (.long (usL xv (63 : Int32)))])) _
                    refine XS.lcmp X0.here hx rfl (hb hby d_method_2_96) rfl ?_
                    show Steps p.tables e below (s₁.setTop (mkF m 97 #[.val (.long xv), .second] [(.int (lcmpW (usL xv (63 : Int32)) (0 : Int64)))])) _
                    by_cases h97 : (usL xv (63 : Int32)) = (0 : Int64)
                    · refine XS.ifNo X0.here hx rfl (hb hby d_method_2_97) rfl ((if0 _ _).trans (teq ((lw_eq _ _).2 h97)).2) ?_
                      show Steps p.tables e below (s₁.setTop (mkF m 100 #[.val (.long xv), .second] [])) _
                      refine XS.bipush X0.here hx rfl (hb hby d_method_2_100) ?_
                      show Steps p.tables e below (s₁.setTop (mkF m 102 #[.val (.long xv), .second] [(.int (9 : Int32))])) _
                      exact retI X0 hx Bd.returns (hb hby d_method_2_102) (by rw [show (9 : Int32) = (grF xv) from by simp only [grF, h6, h17, h28, h39, h50, h61, h73, h85, h97, eq_self, if_true, if_false]]; exact hr)
                    · refine XS.ifYes X0.here hx rfl (pc0 := 97) (pc' := 103) rfl (hb hby d_method_2_97) rfl ((if0 _ _).trans (feq (fun q => h97 ((lw_eq _ _).1 q))).2) (by decide) (by decide) ?_
                      show Steps p.tables e below (s₁.setTop (mkF m 103 #[.val (.long xv), .second] [])) _
                      refine XS.bipush X0.here hx rfl (hb hby d_method_2_103) ?_
                      show Steps p.tables e below (s₁.setTop (mkF m 105 #[.val (.long xv), .second] [(.int (10 : Int32))])) _
                      exact retI X0 hx Bd.returns (hb hby d_method_2_105) (by rw [show (10 : Int32) = (grF xv) from by simp only [grF, h6, h17, h28, h39, h50, h61, h73, h85, h97, eq_self, if_true, if_false]]; exact hr)
  · show Q_gr Z xv h0 n0 _ s₁.heap _
    exact ⟨rfl, N0, e0⟩
theorem d_prog_63_method_2_0 : decode prog_63_method_2_code 0 = .ok (.iconst 1, 1) := by decide +kernel
theorem d_prog_63_method_2_1 : decode prog_63_method_2_code 1 = .ok (.istore_n 2, 1) := by decide +kernel
theorem d_prog_63_method_2_2 : decode prog_63_method_2_code 2 = .ok (.lload_n 0, 1) := by decide +kernel
theorem d_prog_63_method_2_3 : decode prog_63_method_2_code 3 = .ok (.bipush 7, 2) := by decide +kernel
theorem d_prog_63_method_2_5 : decode prog_63_method_2_code 5 = .ok (.lushr, 1) := by decide +kernel
theorem d_prog_63_method_2_6 : decode prog_63_method_2_code 6 = .ok (.lstore_n 3, 1) := by decide +kernel
theorem d_prog_63_method_2_7 : decode prog_63_method_2_code 7 = .ok (.lload_n 3, 1) := by decide +kernel
theorem d_prog_63_method_2_8 : decode prog_63_method_2_code 8 = .ok (.lconst 0, 1) := by decide +kernel
theorem d_prog_63_method_2_9 : decode prog_63_method_2_code 9 = .ok (.lcmp, 1) := by decide +kernel
theorem d_prog_63_method_2_10 : decode prog_63_method_2_code 10 = .ok (.ifCond .eq 14, 3) := by decide +kernel
theorem d_prog_63_method_2_13 : decode prog_63_method_2_code 13 = .ok (.iinc 2 1, 3) := by decide +kernel
theorem d_prog_63_method_2_16 : decode prog_63_method_2_code 16 = .ok (.lload_n 3, 1) := by decide +kernel
theorem d_prog_63_method_2_17 : decode prog_63_method_2_code 17 = .ok (.bipush 7, 2) := by decide +kernel
theorem d_prog_63_method_2_19 : decode prog_63_method_2_code 19 = .ok (.lushr, 1) := by decide +kernel
theorem d_prog_63_method_2_20 : decode prog_63_method_2_code 20 = .ok (.lstore_n 3, 1) := by decide +kernel
theorem d_prog_63_method_2_21 : decode prog_63_method_2_code 21 = .ok (.goto (-14), 3) := by decide +kernel
theorem d_prog_63_method_2_24 : decode prog_63_method_2_code 24 = .ok (.iload_n 2, 1) := by decide +kernel
theorem d_prog_63_method_2_25 : decode prog_63_method_2_code 25 = .ok (.ireturn, 1) := by decide +kernel
theorem pn_1 : plainName "com/example/pirm/pirm/wire/Varint" = true := by first | (simp [plainName, overriddenIn]; done) | decide +kernel
theorem ef_len (m : MethodId) (xv : Int64) : entryFrame m #[(.long xv)] 5 = mkF m 0 #[.val (.long xv), .second, .unset, .unset, .unset] [] := by first | (simp [entryFrame, mkF, argsToLocals, Value.category]; done) | rfl
def Q_len (Z : State) (xv : Int64) (h0 : Heap) (n0 : Nat) (v : Option Value) (h : Heap) (L : List Loc) : Prop := v = some (.int (lenF xv)) ∧ Fr n0 L ∧ h = h0
set_option maxRecDepth 65536 in
set_option maxHeartbeats 40000000 in
theorem rm_len (l : Launch) (Z : State) (a0 : Array Value) (hw : ∀ d ∈ tables_1, d.before a0 Z = true) (ws : List Jvm.Cond) (xv : Int64) (h0 : Heap) (n0 : Nat) (Z0 : n0 ≤ h0.size) :
    MetFree l (⟨"com/example/pirm/pirm/wire/Varint", "length", "(J)I"⟩ : MethodName) (head1 (Jvm.Cond.code (⟨"com/example/pirm/pirm/wire/Varint", "length", "(J)I"⟩ : MethodName) prog_63_method_2_code 5 (some .int) :: ws) ({ frames := 0, cells := 0, slots := 0, locals := 0 } : Room)) (fun a U => a = #[(.long xv)] ∧ Z.Warmed39 U.vm ∧ U.heap = h0) (fun _ _ _ _ _ => True) (fun _ U o U' => ∃ v L, o = .returned v ∧ Q_len Z xv h0 n0 v U'.heap L ∧ FrameEnd U o U' L ({ frames := 0, cells := 0, slots := 0, locals := 0 } : Room).cells ({ frames := 0, cells := 0, slots := 0, locals := 0 } : Room).slots) := by
  refine MetFree.of_bodySF (plainFor_of_name pn_1) hisR ?_
  intro p e s m args below meth c s₁ Bd hml0 hP hK
  obtain ⟨rfl, hZ, hh⟩ := hP
  have hx := Bd.exec
  have hby := Bd.bytes
  have hml : c.maxLocals = 5 := hml0
  have hown : s.vm.findClass "com/example/pirm/pirm/wire/Varint" = some m.cls := findClass_of_methodNamed Bd.named
  have X0 : Stand p l e ({ frames := 0, cells := 0, slots := 0, locals := 0 } : Room) s m #[(.long xv)] below meth c s₁ [] 0 0 := Stand.of_body Bd
  have e0 : s₁.heap = h0 := by rw [← hh, Bd.state]; rfl
  have N0 := Fr.nil n0
  have pre0 : ∀ t, Steps p.tables e below (s₁.setTop (mkF m 0 #[.val (.long xv), .second, .unset, .unset, .unset] [])) t → Steps p.tables e below (s₁.setTop (entryFrame m #[(.long xv)] 5)) t := fun t k => castTop (ef_len m xv) k
  obtain ⟨fs, hr, hrun, hended, hW, hsame⟩ := X0.leave (v := some (.int (lenF xv))) (fun h => by rw [Bd.returns] at h; cases h)
  have loop : ∀ (k : Nat) (k2 : Int32) (k3 : Int64), nt k3 < 2 ^ (7 * k) → lenG k k2 k3 = (lenF xv) → Steps p.tables e below (s₁.setTop (mkF m 7 #[.val (.long xv), .second, .val (.int k2), .val (.long k3), .second] [])) (s₁.setFrames fs) := by
    intro k
    induction k with
    | zero =>
      intro k2 k3 hbd hl
      have hz : k3 = 0 := nt_zero (Nat.lt_one_iff.mp hbd)
      show Steps p.tables e below (s₁.setTop (mkF m 7 #[.val (.long xv), .second, .val (.int k2), .val (.long k3), .second] [])) _
      refine XS.lloadN X0.here hx rfl (hb hby d_prog_63_method_2_7) rfl ?_
      show Steps p.tables e below (s₁.setTop (mkF m 8 #[.val (.long xv), .second, .val (.int k2), .val (.long k3), .second] [(.long k3)])) _
      refine XS.lconst X0.here hx rfl (hb hby d_prog_63_method_2_8) ?_
      show Steps p.tables e below (s₁.setTop (mkF m 9 #[.val (.long xv), .second, .val (.int k2), .val (.long k3), .second] [(.long (0 : Int64)), (.long k3)])) _
      refine XS.lcmp X0.here hx rfl (hb hby d_prog_63_method_2_9) rfl ?_
      show Steps p.tables e below (s₁.setTop (mkF m 10 #[.val (.long xv), .second, .val (.int k2), .val (.long k3), .second] [(.int (lcmpW k3 (0 : Int64)))])) _
      refine XS.ifYes X0.here hx rfl (pc0 := 10) (pc' := 24) rfl (hb hby d_prog_63_method_2_10) rfl ((if0 _ _).trans (teq ((lw_eq _ _).2 hz)).1) (by decide) (by decide) ?_
      show Steps p.tables e below (s₁.setTop (mkF m 24 #[.val (.long xv), .second, .val (.int k2), .val (.long k3), .second] [])) _
      refine XS.iloadN X0.here hx rfl (hb hby d_prog_63_method_2_24) rfl ?_
      show Steps p.tables e below (s₁.setTop (mkF m 25 #[.val (.long xv), .second, .val (.int k2), .val (.long k3), .second] [(.int k2)])) _
      exact retI X0 hx Bd.returns (hb hby d_prog_63_method_2_25) (by rw [show k2 = (lenF xv) from hl]; exact hr)
    | succ k ih =>
      intro k2 k3 hbd hl
      by_cases hz : k3 = 0
      · show Steps p.tables e below (s₁.setTop (mkF m 7 #[.val (.long xv), .second, .val (.int k2), .val (.long k3), .second] [])) _
        refine XS.lloadN X0.here hx rfl (hb hby d_prog_63_method_2_7) rfl ?_
        show Steps p.tables e below (s₁.setTop (mkF m 8 #[.val (.long xv), .second, .val (.int k2), .val (.long k3), .second] [(.long k3)])) _
        refine XS.lconst X0.here hx rfl (hb hby d_prog_63_method_2_8) ?_
        show Steps p.tables e below (s₁.setTop (mkF m 9 #[.val (.long xv), .second, .val (.int k2), .val (.long k3), .second] [(.long (0 : Int64)), (.long k3)])) _
        refine XS.lcmp X0.here hx rfl (hb hby d_prog_63_method_2_9) rfl ?_
        show Steps p.tables e below (s₁.setTop (mkF m 10 #[.val (.long xv), .second, .val (.int k2), .val (.long k3), .second] [(.int (lcmpW k3 (0 : Int64)))])) _
        refine XS.ifYes X0.here hx rfl (pc0 := 10) (pc' := 24) rfl (hb hby d_prog_63_method_2_10) rfl ((if0 _ _).trans (teq ((lw_eq _ _).2 hz)).1) (by decide) (by decide) ?_
        show Steps p.tables e below (s₁.setTop (mkF m 24 #[.val (.long xv), .second, .val (.int k2), .val (.long k3), .second] [])) _
        refine XS.iloadN X0.here hx rfl (hb hby d_prog_63_method_2_24) rfl ?_
        show Steps p.tables e below (s₁.setTop (mkF m 25 #[.val (.long xv), .second, .val (.int k2), .val (.long k3), .second] [(.int k2)])) _
        exact retI X0 hx Bd.returns (hb hby d_prog_63_method_2_25) (by rw [show k2 = (lenF xv) from (if_pos hz).symm.trans hl]; exact hr)
      · show Steps p.tables e below (s₁.setTop (mkF m 7 #[.val (.long xv), .second, .val (.int k2), .val (.long k3), .second] [])) _
        refine XS.lloadN X0.here hx rfl (hb hby d_prog_63_method_2_7) rfl ?_
        show Steps p.tables e below (s₁.setTop (mkF m 8 #[.val (.long xv), .second, .val (.int k2), .val (.long k3), .second] [(.long k3)])) _
        refine XS.lconst X0.here hx rfl (hb hby d_prog_63_method_2_8) ?_
        show Steps p.tables e below (s₁.setTop (mkF m 9 #[.val (.long xv), .second, .val (.int k2), .val (.long k3), .second] [(.long (0 : Int64)), (.long k3)])) _
        refine XS.lcmp X0.here hx rfl (hb hby d_prog_63_method_2_9) rfl ?_
        show Steps p.tables e below (s₁.setTop (mkF m 10 #[.val (.long xv), .second, .val (.int k2), .val (.long k3), .second] [(.int (lcmpW k3 (0 : Int64)))])) _
        refine XS.ifNo X0.here hx rfl (hb hby d_prog_63_method_2_10) rfl ((if0 _ _).trans (feq (fun q => hz ((lw_eq _ _).1 q))).1) ?_
        show Steps p.tables e below (s₁.setTop (mkF m 13 #[.val (.long xv), .second, .val (.int k2), .val (.long k3), .second] [])) _
        refine XS.iinc X0.here hx rfl (hb hby d_prog_63_method_2_13) rfl (l' := #[.val (.long xv), .second, .val (.int (k2 + (1 : Int32))), .val (.long k3), .second]) rfl ?_
        show Steps p.tables e below (s₁.setTop (mkF m 16 #[.val (.long xv), .second, .val (.int (k2 + (1 : Int32))), .val (.long k3), .second] [])) _
        refine XS.lloadN X0.here hx rfl (hb hby d_prog_63_method_2_16) rfl ?_
        show Steps p.tables e below (s₁.setTop (mkF m 17 #[.val (.long xv), .second, .val (.int (k2 + (1 : Int32))), .val (.long k3), .second] [(.long k3)])) _
        refine XS.bipush X0.here hx rfl (hb hby d_prog_63_method_2_17) ?_
        show Steps p.tables e below (s₁.setTop (mkF m 19 #[.val (.long xv), .second, .val (.int (k2 + (1 : Int32))), .val (.long k3), .second] [(.int (7 : Int32)), (.long k3)])) _
        refine XS.lushr X0.here hx rfl (hb hby d_prog_63_method_2_19) rfl ?_
        show Steps p.tables e below (s₁.setTop (mkF m 20 #[.val (.long xv), .second, .val (.int (k2 + (1 : Int32))), .val (.long k3), .second] [(.long (usL k3 (7 : Int32)))])) _
        refine XS.lstoreN X0.here hx rfl (hb hby d_prog_63_method_2_20) rfl (l' := #[.val (.long xv), .second, .val (.int (k2 + (1 : Int32))), .val (.long (usL k3 (7 : Int32))), .second]) rfl ?_
        show Steps p.tables e below (s₁.setTop (mkF m 21 #[.val (.long xv), .second, .val (.int (k2 + (1 : Int32))), .val (.long (usL k3 (7 : Int32))), .second] [])) _
        refine XS.goto X0.here hx rfl (pc0 := 21) (pc' := 7) rfl (hb hby d_prog_63_method_2_21) (by decide) (by decide) ?_
        exact ih (k2 + (1 : Int32)) (usL k3 (7 : Int32)) (turn hbd) ((if_neg hz).symm.trans hl)
  refine ⟨_, _, pre0 _ ?_, hrun, hended, _, _, rfl, ?_, ⟨_, rfl⟩, hW, hsame.mono (by decide) (by decide)⟩
  · show Steps p.tables e below (s₁.setTop (mkF m 0 #[.val (.long xv), .second, .unset, .unset, .unset] [])) _
    refine XS.iconst X0.here hx rfl (hb hby d_prog_63_method_2_0) ?_
    show Steps p.tables e below (s₁.setTop (mkF m 1 #[.val (.long xv), .second, .unset, .unset, .unset] [(.int (1 : Int32))])) _
    refine XS.istoreN X0.here hx rfl (hb hby d_prog_63_method_2_1) rfl (l' := #[.val (.long xv), .second, .val (.int (1 : Int32)), .unset, .unset]) rfl ?_
    show Steps p.tables e below (s₁.setTop (mkF m 2 #[.val (.long xv), .second, .val (.int (1 : Int32)), .unset, .unset] [])) _
    refine XS.lloadN X0.here hx rfl (hb hby d_prog_63_method_2_2) rfl ?_
    show Steps p.tables e below (s₁.setTop (mkF m 3 #[.val (.long xv), .second, .val (.int (1 : Int32)), .unset, .unset] [(.long xv)])) _
    refine XS.bipush X0.here hx rfl (hb hby d_prog_63_method_2_3) ?_
    show Steps p.tables e below (s₁.setTop (mkF m 5 #[.val (.long xv), .second, .val (.int (1 : Int32)), .unset, .unset] [(.int (7 : Int32)), (.long xv)])) _
    refine XS.lushr X0.here hx rfl (hb hby d_prog_63_method_2_5) rfl ?_
    show Steps p.tables e below (s₁.setTop (mkF m 6 #[.val (.long xv), .second, .val (.int (1 : Int32)), .unset, .unset] [(.long (usL xv (7 : Int32)))])) _
    refine XS.lstoreN X0.here hx rfl (hb hby d_prog_63_method_2_6) rfl (l' := #[.val (.long xv), .second, .val (.int (1 : Int32)), .val (.long (usL xv (7 : Int32))), .second]) rfl ?_
    exact loop 9 (1 : Int32) (usL xv (7 : Int32)) (turns xv) rfl
  · show Q_len Z xv h0 n0 _ s₁.heap _
    exact ⟨rfl, N0, e0⟩
theorem pd_0 : parseMethodDescriptor "(J)I" = some ⟨[.long], some .int⟩ := by decide +kernel
theorem ef_law (m : MethodId) (xa : Int64) (xs : Int32) : entryFrame m #[(.long xa), (.int xs)] maxLocals = mkF m 0 #[.val (.long xa), .second, .val (.int xs), .unset, .unset, .unset] [] := by first | (simp [entryFrame, mkF, argsToLocals, Value.category, maxLocals]; done) | rfl
def Q_law (Z : State) (xa : Int64) (xs : Int32) (h0 : Heap) (n0 : Nat) (v : Option Value) (h : Heap) (L : List Loc) : Prop := v = some (.int (lawF xa xs)) ∧ Fr n0 L ∧ True
set_option maxRecDepth 65536 in
set_option maxHeartbeats 40000000 in
theorem rm_law (l : Launch) (Z : State) (a0 : Array Value) (hw : ∀ d ∈ tables_1, d.before a0 Z = true) (ws : List Jvm.Cond) (xa : Int64) (xs : Int32) (h0 : Heap) (n0 : Nat) (Z0 : n0 ≤ h0.size) :
    MetFree l x (head1 (Jvm.Cond.code x code maxLocals ret :: ws) room_1) (fun a U => a = #[(.long xa), (.int xs)] ∧ Z.Warmed39 U.vm ∧ U.heap = h0) (fun _ _ _ _ _ => True) (fun _ U o U' => ∃ v L, o = .returned v ∧ Q_law Z xa xs h0 n0 v U'.heap L ∧ FrameEnd U o U' L room_1.cells room_1.slots) := by
  refine MetFree.of_bodySF (plainFor_of_name pn_0) hisR ?_
  intro p e s m args below meth c s₁ Bd hml0 hP hK
  obtain ⟨rfl, hZ, hh⟩ := hP
  have hx := Bd.exec
  have hby := Bd.bytes
  have hml : c.maxLocals = 6 := hml0
  have hown : s.vm.findClass "com/example/pirm/pirm/wire/VarintLengthPinLaw" = some m.cls := findClass_of_methodNamed Bd.named
  have X0 : Stand p l e room_1 s m #[(.long xa), (.int xs)] below meth c s₁ [] 0 0 := Stand.of_body Bd
  have e0 : s₁.heap = h0 := by rw [← hh, Bd.state]; rfl
  have N0 := Fr.nil n0
  have pre0 : ∀ t, Steps p.tables e below (s₁.setTop (mkF m 0 #[.val (.long xa), .second, .val (.int xs), .unset, .unset, .unset] [])) t → Steps p.tables e below (s₁.setTop (entryFrame m #[(.long xa), (.int xs)] maxLocals)) t := fun t k => castTop (ef_law m xa xs) k
  obtain ⟨_, _, ⟨T1, L1, k1, n1⟩, -, X1, ⟨Lc1, hQ1, l1, y1, z1⟩, st1⟩ := Jvm.LawKit.callS X0 hx (y := (⟨"com/example/pirm/pirm/wire/Varint", "length", "(J)I"⟩ : MethodName)) hown (mvT hZ (hw _ (List.mem_of_getElem? (i := 0) rfl))) (mvT hZ (hw _ (List.mem_of_getElem? (i := 1) rfl))) (mvT hZ (hw _ (List.mem_of_getElem? (i := 2) rfl))) (mvT hZ (hw _ (List.mem_of_getElem? (i := 3) rfl))) (by decide) (backOf (W := 0) (rm_len l Z a0 hw [] (vF xa xs) h0 n0 Z0) hZ (hw _ (List.mem_of_getElem? (i := 3) rfl)) (hw _ (List.mem_of_getElem? (i := 2) rfl)) (by decide) (by decide)) (g := (mkF m 8 #[.val (.long xa), .second, .val (.int xs), .val (.long (vF xa xs)), .second, .unset] [(.long (vF xa xs))])) rfl (by rw [hml]; rfl) (argsL := [(.long (vF xa xs))]) (rest := []) (lenOf pd_0 rfl) rfl (by show 2 * 0 + _ ≤ _; exact Nat.le_of_eq rfl) (hb hby at_8) (fun _ _ => ⟨rfl, e0, (by decide : 0 + 0 ≤ _), (by decide : 0 + 0 ≤ _)⟩)
  dsimp only [Pt.U, Pt.locs, Pt.cells, Pt.slots] at X1 l1 y1 z1 st1 hQ1
  subst l1 y1 z1
  obtain ⟨rfl, N1q, e1⟩ := hQ1
  have N1 := Fr.app N0 N1q
  obtain ⟨_, _, ⟨T2, L2, k2, n2⟩, -, X2, ⟨Lc2, hQ2, l2, y2, z2⟩, st2⟩ := Jvm.LawKit.callS X1 hx (y := (⟨"com/example/pirm/pirm/wire/VarintLengthPinLaw", "groups", "(J)I"⟩ : MethodName)) hown (mvT hZ (hw _ (List.mem_of_getElem? (i := 4) rfl))) (mvT hZ (hw _ (List.mem_of_getElem? (i := 5) rfl))) (mvT hZ (hw _ (List.mem_of_getElem? (i := 6) rfl))) (mvT hZ (hw _ (List.mem_of_getElem? (i := 7) rfl))) (by decide) (backOf (W := 1) (rm_gr l Z a0 hw [] (vF xa xs) h0 n0 Z0) hZ (hw _ (List.mem_of_getElem? (i := 7) rfl)) (hw _ (List.mem_of_getElem? (i := 6) rfl)) (by decide) (by decide)) (g := (mkF m 16 #[.val (.long xa), .second, .val (.int xs), .val (.long (vF xa xs)), .second, .val (.int (lenF (vF xa xs)))] [(.long (vF xa xs)), (.int (lenF (vF xa xs)))])) rfl (by rw [hml]; rfl) (argsL := [(.long (vF xa xs))]) (rest := [(.int (lenF (vF xa xs)))]) (lenOf pd_0 rfl) rfl (by show 2 * 0 + _ ≤ _; exact Nat.le_of_eq rfl) (hb hby at_16) (fun _ _ => ⟨rfl, e1, (by decide : 0 + 0 ≤ _), (by decide : 0 + 0 ≤ _)⟩)
  dsimp only [Pt.U, Pt.locs, Pt.cells, Pt.slots] at X2 l2 y2 z2 st2 hQ2
  subst l2 y2 z2
  obtain ⟨rfl, N2q, e2⟩ := hQ2
  have N2 := Fr.app N1 N2q
  obtain ⟨fs, hr, hrun, hended, hW, hsame⟩ := X2.leave (v := some (.int (lawF xa xs))) (fun h => by rw [Bd.returns] at h; cases h)
  refine ⟨_, _, pre0 _ ?_, hrun, hended, _, _, rfl, ?_, ⟨_, rfl⟩, hW, hsame.mono (by decide) (by decide)⟩
  · show Steps p.tables e below (s₁.setTop (mkF m 0 #[.val (.long xa), .second, .val (.int xs), .unset, .unset, .unset] [])) _
    refine XS.lloadN X0.here hx rfl (hb hby at_0) rfl ?_
    show Steps p.tables e below (s₁.setTop (mkF m 1 #[.val (.long xa), .second, .val (.int xs), .unset, .unset, .unset] [(.long xa)])) _
    refine XS.iloadN X0.here hx rfl (hb hby at_1) rfl ?_
    show Steps p.tables e below (s₁.setTop (mkF m 2 #[.val (.long xa), .second, .val (.int xs), .unset, .unset, .unset] [(.int xs), (.long xa)])) _
    refine XS.bipush X0.here hx rfl (hb hby at_2) ?_
    show Steps p.tables e below (s₁.setTop (mkF m 4 #[.val (.long xa), .second, .val (.int xs), .unset, .unset, .unset] [(.int (63 : Int32)), (.int xs), (.long xa)])) _
    refine XS.iand X0.here hx rfl (hb hby at_4) rfl ?_
    show Steps p.tables e below (s₁.setTop (mkF m 5 #[.val (.long xa), .second, .val (.int xs), .unset, .unset, .unset] [(.int (xs &&& (63 : Int32))), (.long xa)])) _
    refine XS.lushr X0.here hx rfl (hb hby at_5) rfl ?_
    show Steps p.tables e below (s₁.setTop (mkF m 6 #[.val (.long xa), .second, .val (.int xs), .unset, .unset, .unset] [(.long ((xa.toUInt64 >>> ((xs &&& (63 : Int32)) &&& 0x3f).toInt64.toUInt64).toInt64))])) _
    refine XS.lstoreN X0.here hx rfl (hb hby at_6) rfl (l' := #[.val (.long xa), .second, .val (.int xs), .val (.long (vF xa xs)), .second, .unset]) rfl ?_
    show Steps p.tables e below (s₁.setTop (mkF m 7 #[.val (.long xa), .second, .val (.int xs), .val (.long (vF xa xs)), .second, .unset] [])) _
    refine XS.lloadN X0.here hx rfl (hb hby at_7) rfl ?_
    show Steps p.tables e below (s₁.setTop (mkF m 8 #[.val (.long xa), .second, .val (.int xs), .val (.long (vF xa xs)), .second, .unset] [(.long (vF xa xs))])) _
    refine st1 _ ?_
    show Steps p.tables e below (T1.setTop (mkF m 11 #[.val (.long xa), .second, .val (.int xs), .val (.long (vF xa xs)), .second, .unset] [(.int (lenF (vF xa xs)))])) _
    refine XS.istore X1.here hx rfl (hb hby at_11) rfl (l' := #[.val (.long xa), .second, .val (.int xs), .val (.long (vF xa xs)), .second, .val (.int (lenF (vF xa xs)))]) rfl ?_
    show Steps p.tables e below (T1.setTop (mkF m 13 #[.val (.long xa), .second, .val (.int xs), .val (.long (vF xa xs)), .second, .val (.int (lenF (vF xa xs)))] [])) _
    refine XS.iload X1.here hx rfl (hb hby at_13) rfl ?_
    show Steps p.tables e below (T1.setTop (mkF m 15 #[.val (.long xa), .second, .val (.int xs), .val (.long (vF xa xs)), .second, .val (.int (lenF (vF xa xs)))] [(.int (lenF (vF xa xs)))])) _
    refine XS.lloadN X1.here hx rfl (hb hby at_15) rfl ?_
    show Steps p.tables e below (T1.setTop (mkF m 16 #[.val (.long xa), .second, .val (.int xs), .val (.long (vF xa xs)), .second, .val (.int (lenF (vF xa xs)))] [(.long (vF xa xs)), (.int (lenF (vF xa xs)))])) _
    refine st2 _ ?_
    show Steps p.tables e below (T2.setTop (mkF m 19 #[.val (.long xa), .second, .val (.int xs), .val (.long (vF xa xs)), .second, .val (.int (lenF (vF xa xs)))] [(.int (grF (vF xa xs))), (.int (lenF (vF xa xs)))])) _
    by_cases h19 : (lenF (vF xa xs)) = (grF (vF xa xs))
    · refine XS.icmpNo X2.here hx rfl (hb hby at_19) rfl (teq h19).2 ?_
      show Steps p.tables e below (T2.setTop (mkF m 22 #[.val (.long xa), .second, .val (.int xs), .val (.long (vF xa xs)), .second, .val (.int (lenF (vF xa xs)))] [])) _
      refine XS.iload X2.here hx rfl (hb hby at_22) rfl ?_
      show Steps p.tables e below (T2.setTop (mkF m 24 #[.val (.long xa), .second, .val (.int xs), .val (.long (vF xa xs)), .second, .val (.int (lenF (vF xa xs)))] [(.int (lenF (vF xa xs)))])) _
      refine XS.iconst X2.here hx rfl (hb hby at_24) ?_
      show Steps p.tables e below (T2.setTop (mkF m 25 #[.val (.long xa), .second, .val (.int xs), .val (.long (vF xa xs)), .second, .val (.int (lenF (vF xa xs)))] [(.int (1 : Int32)), (.int (lenF (vF xa xs)))])) _
      by_cases h25 : (lenF (vF xa xs)) < (1 : Int32)
      · refine XS.icmpYes X2.here hx rfl (pc0 := 25) (pc' := 39) rfl (hb hby at_25) rfl (tlt h25).1 (by decide) (by decide) ?_
        show Steps p.tables e below (T2.setTop (mkF m 39 #[.val (.long xa), .second, .val (.int xs), .val (.long (vF xa xs)), .second, .val (.int (lenF (vF xa xs)))] [])) _
        refine XS.iconst X2.here hx rfl (hb hby at_39) ?_
        show Steps p.tables e below (T2.setTop (mkF m 40 #[.val (.long xa), .second, .val (.int xs), .val (.long (vF xa xs)), .second, .val (.int (lenF (vF xa xs)))] [(.int (0 : Int32))])) _
        exact retN X2 hx (t := .boolean) Bd.returns (by simp) (hb hby at_40) (by rw [show nar .boolean (0 : Int32) = (lawF xa xs) from (own_nar0).trans (by rw [lawF, if_pos h19, if_pos h25])]; exact hr)
      · refine XS.icmpNo X2.here hx rfl (hb hby at_25) rfl (flt h25).1 ?_
        show Steps p.tables e below (T2.setTop (mkF m 28 #[.val (.long xa), .second, .val (.int xs), .val (.long (vF xa xs)), .second, .val (.int (lenF (vF xa xs)))] [])) _
        refine XS.iload X2.here hx rfl (hb hby at_28) rfl ?_
        show Steps p.tables e below (T2.setTop (mkF m 30 #[.val (.long xa), .second, .val (.int xs), .val (.long (vF xa xs)), .second, .val (.int (lenF (vF xa xs)))] [(.int (lenF (vF xa xs)))])) _
        refine XS.bipush X2.here hx rfl (hb hby at_30) ?_
        show Steps p.tables e below (T2.setTop (mkF m 32 #[.val (.long xa), .second, .val (.int xs), .val (.long (vF xa xs)), .second, .val (.int (lenF (vF xa xs)))] [(.int (10 : Int32)), (.int (lenF (vF xa xs)))])) _
        by_cases h32 : (10 : Int32) < (lenF (vF xa xs))
        · refine XS.icmpYes X2.here hx rfl (pc0 := 32) (pc' := 39) rfl (hb hby at_32) rfl (tlt h32).2.2.1 (by decide) (by decide) ?_
          show Steps p.tables e below (T2.setTop (mkF m 39 #[.val (.long xa), .second, .val (.int xs), .val (.long (vF xa xs)), .second, .val (.int (lenF (vF xa xs)))] [])) _
          refine XS.iconst X2.here hx rfl (hb hby at_39) ?_
          show Steps p.tables e below (T2.setTop (mkF m 40 #[.val (.long xa), .second, .val (.int xs), .val (.long (vF xa xs)), .second, .val (.int (lenF (vF xa xs)))] [(.int (0 : Int32))])) _
          exact retN X2 hx (t := .boolean) Bd.returns (by simp) (hb hby at_40) (by rw [show nar .boolean (0 : Int32) = (lawF xa xs) from (own_nar0).trans (by rw [lawF, if_pos h19, if_neg h25, if_pos h32])]; exact hr)
        · refine XS.icmpNo X2.here hx rfl (hb hby at_32) rfl (flt h32).2.2.1 ?_
          show Steps p.tables e below (T2.setTop (mkF m 35 #[.val (.long xa), .second, .val (.int xs), .val (.long (vF xa xs)), .second, .val (.int (lenF (vF xa xs)))] [])) _
          refine XS.iconst X2.here hx rfl (hb hby at_35) ?_
          show Steps p.tables e below (T2.setTop (mkF m 36 #[.val (.long xa), .second, .val (.int xs), .val (.long (vF xa xs)), .second, .val (.int (lenF (vF xa xs)))] [(.int (1 : Int32))])) _
          refine XS.goto X2.here hx rfl (pc0 := 36) (pc' := 40) rfl (hb hby at_36) (by decide) (by decide) ?_
          show Steps p.tables e below (T2.setTop (mkF m 40 #[.val (.long xa), .second, .val (.int xs), .val (.long (vF xa xs)), .second, .val (.int (lenF (vF xa xs)))] [(.int (1 : Int32))])) _
          exact retN X2 hx (t := .boolean) Bd.returns (by simp) (hb hby at_40) (by rw [show nar .boolean (1 : Int32) = (lawF xa xs) from (own_nar1).trans (by rw [lawF, if_pos h19, if_neg h25, if_neg h32])]; exact hr)
    · refine XS.icmpYes X2.here hx rfl (pc0 := 19) (pc' := 39) rfl (hb hby at_19) rfl (feq h19).2 (by decide) (by decide) ?_
      show Steps p.tables e below (T2.setTop (mkF m 39 #[.val (.long xa), .second, .val (.int xs), .val (.long (vF xa xs)), .second, .val (.int (lenF (vF xa xs)))] [])) _
      refine XS.iconst X2.here hx rfl (hb hby at_39) ?_
      show Steps p.tables e below (T2.setTop (mkF m 40 #[.val (.long xa), .second, .val (.int xs), .val (.long (vF xa xs)), .second, .val (.int (lenF (vF xa xs)))] [(.int (0 : Int32))])) _
      exact retN X2 hx (t := .boolean) Bd.returns (by simp) (hb hby at_40) (by rw [show nar .boolean (0 : Int32) = (lawF xa xs) from (own_nar0).trans (by rw [lawF, if_neg h19])]; exact hr)
  · show Q_law Z xa xs h0 n0 _ T2.heap _
    exact ⟨rfl, N2, trivial⟩
set_option maxRecDepth 65536 in
set_option maxHeartbeats 40000000 in
theorem comes_1 {Post : Tables → Env → Array Value → State → Outcome → State → Prop} (hpost : ∀ tb e args s v u, (limb_1_1.after args s (.returned v) u = true ∧ limb_1_2.after args s (.returned v) u = true ∧ True) → FrameEnd s (.returned v) u (Jvm.fieldLocs frame_1_writes args s ++ Jvm.arrayLocs frame_1_arrays args s ++ Jvm.staticLocs frame_1_statics s) 0 0 → Post tb e args s (.returned v) u) :
    ArmFor flags0 classFile x code maxLocals ret World_1 tables_1 room_1 Calls_1 rest_1 Pre_1 Post := by
  intro l hfl _ _ p e ha hc hk s m args below hf hA hF happ hP
  obtain ⟨hcalls, hrest, hpre⟩ := hP
  obtain ⟨-, -, -, hnamed, -, -, -, hat⟩ := (Spec.applies_iff hf).mp happ
  obtain ⟨hg, hn⟩ := and_e (Cond.before_iff.mp (show (Jvm.Cond.and given_1 narrow_1).before args s = true from hpre))
  obtain ⟨gc, g0⟩ := and_e hg
  obtain ⟨k0, g1⟩ := and_e g0
  have k1 := g1
  obtain ⟨w0, w1, rfl⟩ : ∃ w0 w1 : Value, args = #[w0, w1] := by
    have hs : args.size = 2 := by simpa [Cond.value, given_1] using gc
    obtain ⟨L⟩ := args
    match L, hs with
    | [w0, w1], _ => exact ⟨w0, w1, rfl⟩
  have hw := fun d (hd : d ∈ tables_1) => atoms_spec (ws := Jvm.Cond.code x code maxLocals ret :: tables_1) hat d (List.mem_cons_of_mem _ hd)
  obtain ⟨i0, ei0⟩ := isL_v k0
  obtain rfl : w0 = (.long i0) := Option.some.inj ei0
  obtain ⟨i1, ei1⟩ := is_v k1
  obtain rfl : w1 = (.int i1) := Option.some.inj ei1
  obtain ⟨n, o, h1, h2, h3, v, L, rfl, hQ, hq⟩ := rm_law l s _ hw tables_1 i0 i1 s.heap s.heap.size (Nat.le_refl _)  p e ha hc hk s m _ below hf ((Spec.applies_iff_loose hf).mp happ).1 ⟨rfl, State.Warmed39.refl s, rfl⟩ trivial
  have hv : v = some (.int 1) := hQ.1.trans (by rw [lawF_one])
  subst hv
  have N := hQ.2.1
  refine ⟨n, _, h1, h2, h3, hpost _ _ _ _ _ _ ⟨Cond.after_iff.mpr rfl, Cond.after_iff.mpr (eq_i res_at (Term.int_eval (1)) rfl), trivial⟩ ⟨hq.1, hq.2.1, (hq.2.2.sift fun y hy => Or.inr (N y hy)).mono (by decide) (by decide)⟩⟩
theorem main_1_1 : Claimed_1_1 := comes_1 fun _ _ _ _ _ _ h hF => ⟨h.1, hF⟩
theorem main_1_2 : Claimed_1_2 := comes_1 fun _ _ _ _ _ _ h hF => ⟨h.2.1, hF⟩
end Jvm.Pilot.@@N@@
namespace Jvm.Pilot.@@N@@
open Jvm Jvm.ClassFile Sem Op Lib Jvm.Free Jvm.Stand Jvm.Pilot.@@N@@.Jvm.D
/-! MADE BY PROGRAM (witnessworld.py) out of the Statement's table words and the real class files: 9 classes; the members and pool entries that the words name. The judged class is class 1, her method 2. -/
namespace start1
open Jvm.ClassFile
def u (s : String) : CpInfo := .utf8 (stringToUtf16 s)
/-- a pool by its gaps: so many unusable entries, then the entry; so many at the end -/
def gap : Nat → List CpInfo → List CpInfo
  | 0, r => r
  | n + 1, r => .unusable :: gap n r
def poolList (es : List (Nat × CpInfo)) (last : Nat) : List CpInfo := es.foldr (fun e r => gap e.1 (e.2 :: r)) (gap last [])
def pool (es : List (Nat × CpInfo)) (last : Nat) : Array CpInfo := ⟨poolList es last⟩
def fileOf (pool : Array CpInfo) (this : Nat) (attrs : Array Attribute := #[]) (ms : Array MethodInfo := #[]) (fl : Nat := 33) (sup : Nat := 0) (ifs : Array Nat := #[]) (fds : Array FieldInfo := #[]) : ClassFile where
  minorVersion := 0
  majorVersion := 65
  constantPool := pool
  accessFlags := fl
  thisClass := this
  superClass := sup
  interfaces := ifs
  fields := fds
  methods := ms
  attributes := attrs
def plain (name : String) (sup : Option ClassId) : Class where
  name := name
  kind := .ordinary
  loader := none
  accessFlags := 33
  super := sup
  interfaces := #[]
  cf := none
  fields := #[]
  methods := #[]
  instanceTypes := #[]
  staticTypes := #[]
  resolved := #[]
  callSites := []
  init := .initialized
  statics := none
  mirror := none

def pool0 : Array CpInfo := pool [(5, u "<init>"), (0, u "()V"), (1, .class_ 10), (1, u "java/lang/Object")] 113

def k0m0 : Method := { name := "<init>", desc := "()V", sig := { parameters := [], returnType := none }, accessFlags := 1, code := none }
/-- java/lang/Object -/
def k0 : Class := { plain "java/lang/Object" none with
  accessFlags := 33
  interfaces := #[]
  cf := some (fileOf pool0 8 #[] #[{ accessFlags := 1, nameIndex := 5, descriptorIndex := 6, attributes := #[] }] 33 0 #[] #[])
  fields := #[]
  methods := #[k0m0]
  instanceTypes := #[]
  staticTypes := #[]
  resolved := Array.replicate 124 none
  statics := none }

def pool1 : Array CpInfo := pool [(2, .class_ 4), (1, u "java/lang/Object"), (0, u "<init>"), (0, u "()V"), (0, .methodref 8 9), (0, .class_ 10), (0, .nameAndType 11 12), (0, u "com/example/pirm/pirm/wire/Varint"), (0, u "length"), (0, u "(J)I"), (0, .methodref 14 15), (0, .class_ 16), (0, .nameAndType 17 12), (0, u "com/example/pirm/pirm/wire/VarintLengthPinLaw"), (0, u "groups"), (3, u "law"), (0, u "(JI)Z")] 2

def k1m0 : Method := { name := "<init>", desc := "()V", sig := { parameters := [], returnType := none }, accessFlags := 2, code := none }
def k1c1 : Code := { maxStack := 4, maxLocals := 2, code := method_2_code, exceptionTable := #[], attributes := #[] }
def k1m1 : Method := { name := "groups", desc := "(J)I", sig := { parameters := [.long], returnType := some .int }, accessFlags := 10, code := some k1c1 }
def k1c2 : Code := { maxStack := 4, maxLocals := 6, code := code, exceptionTable := #[], attributes := #[] }
def k1m2 : Method := { name := "law", desc := "(JI)Z", sig := { parameters := [.long, .int], returnType := some .boolean }, accessFlags := 9, code := some k1c2 }
/-- com/example/pirm/pirm/wire/VarintLengthPinLaw -/
def k1 : Class := { plain "com/example/pirm/pirm/wire/VarintLengthPinLaw" (some 0) with
  accessFlags := 49
  interfaces := #[]
  cf := some (fileOf pool1 14 #[] #[{ accessFlags := 2, nameIndex := 5, descriptorIndex := 6, attributes := #[] }, { accessFlags := 10, nameIndex := 17, descriptorIndex := 12, attributes := #[] }, { accessFlags := 9, nameIndex := 21, descriptorIndex := 22, attributes := #[] }] 49 2 #[] #[])
  fields := #[]
  methods := #[k1m0, k1m1, k1m2]
  instanceTypes := #[]
  staticTypes := #[]
  resolved := Array.replicate 25 none
  statics := none }

def pool2 : Array CpInfo := pool [(2, .class_ 4), (1, u "java/lang/Object"), (0, u "<init>"), (0, u "()V"), (30, .class_ 38), (0, u "com/example/pirm/pirm/wire/Varint"), (5, u "MAX_LENGTH"), (0, u "I"), (4, u "length"), (0, u "(J)I")] 8

def k2m0 : Method := { name := "<init>", desc := "()V", sig := { parameters := [], returnType := none }, accessFlags := 2, code := none }
def k2c1 : Code := { maxStack := 4, maxLocals := 5, code := prog_63_method_2_code, exceptionTable := #[], attributes := #[] }
def k2m1 : Method := { name := "length", desc := "(J)I", sig := { parameters := [.long], returnType := some .int }, accessFlags := 9, code := some k2c1 }
/-- com/example/pirm/pirm/wire/Varint -/
def k2 : Class := { plain "com/example/pirm/pirm/wire/Varint" (some 0) with
  accessFlags := 49
  interfaces := #[]
  cf := some (fileOf pool2 37 #[] #[{ accessFlags := 2, nameIndex := 5, descriptorIndex := 6, attributes := #[] }, { accessFlags := 9, nameIndex := 50, descriptorIndex := 51, attributes := #[] }] 49 2 #[] #[{ accessFlags := 25, nameIndex := 44, descriptorIndex := 45, attributes := #[] }])
  fields := #[{ name := "MAX_LENGTH", type := .int, accessFlags := 25, slot := 0, constantValue := 0 }]
  methods := #[k2m0, k2m1]
  instanceTypes := #[]
  staticTypes := #[.int]
  resolved := Array.replicate 60 none
  statics := none }

def pool3 : Array CpInfo := pool [(1, u "java/lang/Cloneable"), (0, .class_ 1), (0, u "java/lang/Object"), (0, .class_ 3)] 3

/-- java/lang/Cloneable -/
def k3 : Class := { plain "java/lang/Cloneable" (some 0) with
  accessFlags := 1537
  interfaces := #[]
  cf := some (fileOf pool3 2 #[] #[] 1537 4 #[] #[])
  fields := #[]
  methods := #[]
  instanceTypes := #[]
  staticTypes := #[]
  resolved := Array.replicate 8 none
  statics := none }

def pool4 : Array CpInfo := pool [(1, u "java/io/Serializable"), (0, .class_ 1), (0, u "java/lang/Object"), (0, .class_ 3)] 3

/-- java/io/Serializable -/
def k4 : Class := { plain "java/io/Serializable" (some 0) with
  accessFlags := 1537
  interfaces := #[]
  cf := some (fileOf pool4 2 #[] #[] 1537 4 #[] #[])
  fields := #[]
  methods := #[]
  instanceTypes := #[]
  staticTypes := #[]
  resolved := Array.replicate 8 none
  statics := none }

/-- the primitive byte -/
def k5 : Class := { plain "byte" none with kind := .primitive 'B', accessFlags := 0x411 }
/-- [B -/
def k6 : Class := { plain "[B" (some 0) with kind := .array 5 .byte, interfaces := #[3, 4], accessFlags := 1041 }

/-- the primitive int -/
def k7 : Class := { plain "int" none with kind := .primitive 'I', accessFlags := 0x411 }
/-- [I -/
def k8 : Class := { plain "[I" (some 0) with kind := .array 7 .int, interfaces := #[3, 4], accessFlags := 1041 }

def heap : Heap := #[]
def classes : Array Class := #[k0, k1, k2, k3, k4, k5, k6, k7, k8]
def interned : List (Array UInt16 × Addr) := []
def slotsUsed : Nat := 0
def theMethod : MethodId := ⟨1, 2⟩
def args0 : Array Value := #[.long 5, .int 7]
def aboutOver (below : List Frame) : State where
  vm := { classes := classes, interned := interned.toArray }
  heap := heap
  slotsUsed := slotsUsed
  threads := #[{ frames := .invoking theMethod args0 :: below }]
def below0 : List Frame := [.native { method := ⟨0, 0⟩, args := #[] }]
def about1 : State := aboutOver below0
def p0 : Program := .bare "" "" ""
def e0 : Env := launch0.env 0 0 0
theorem w_frames : about1.frames = Frame.invoking theMethod args0 :: below0 := rfl
set_option maxRecDepth 65536 in
theorem w_args : argsFit about1.vm theMethod args0 = true := by decide +kernel
set_option maxRecDepth 65536 in
theorem w_heap : heapFits about1 = true := by decide +kernel
set_option maxRecDepth 65536 in
theorem w_runnable : about1.curStatus? = some .runnable := by decide +kernel
set_option maxRecDepth 65536 in
theorem w_alone : about1.alone = true := by decide +kernel
set_option maxRecDepth 65536 in
theorem w_named : about1.methodNamed? x = some theMethod := by decide +kernel
set_option maxRecDepth 65536 in
theorem w_hears : about1.hears theMethod below0 = true := by decide +kernel
set_option maxRecDepth 65536 in
theorem w_ripe : about1.ripe theMethod args0 below0 = true := by decide +kernel
theorem w_running : about1.status = .running := rfl
set_option maxRecDepth 65536 in
theorem w_room : about1.hasRoom e0.platform room_1 = true :=
  launch0.hasRoom_least _ room_1 (by decide +kernel) (by decide +kernel) (by decide +kernel) (by decide +kernel) (by decide +kernel) (by decide +kernel)
theorem allAtoms_all (ts : List Jvm.Cond) (a : Array Jvm.Value) (st : Jvm.State) : (allAtoms ts).before a st = ts.all (fun c => c.before a st) := by
  induction ts with
  | nil => rfl
  | cons c t ih =>
    show (Jvm.Cond.and c (allAtoms t)).before a st = _
    rw [Jvm.Cond.before_and, ih, List.all_cons]
def words1 : List Jvm.Cond := Jvm.Cond.code x code maxLocals ret :: tables_1
/-- a 'code' word, met by the world's own term for the bytes: nothing is compared byte by byte -/
theorem code_word {y : MethodName} {bytes : ByteArray} {mx : Nat} {rt : Option FieldType} {a : Array Value} {s : State} {m : MethodId} {meth : Method} {c : Code} (h1 : s.methodNamed? y = some m) (h2 : s.vm.method? m = some meth) (h3 : meth.code = some c) (h4 : c.code = bytes)
    (h5 : (c.maxLocals == mx && c.exceptionTable.isEmpty && decide (c.maxStack ≤ mostOperands) && decide (meth.sig.returnType = rt) && !meth.locks && decide (parseMethodDescriptor y.desc = some meth.sig)) = true) : (Jvm.Cond.code y bytes mx rt).before a s = true := by
  simp only [Bool.and_eq_true, beq_iff_eq, Bool.not_eq_true', decide_eq_true_eq] at h5
  obtain ⟨⟨⟨⟨⟨g1, g2⟩, g3⟩, g4⟩, g5⟩, g6⟩ := h5
  simp [Cond.before, Cond.holds, Cond.value, h1, h2, h3, h4, g1, g2, g3, g4, g5, g6]
def isCode : Jvm.Cond → Bool
  | .code _ _ _ _ => true
  | _ => false
theorem all_split {L : List Jvm.Cond} {P : Jvm.Cond → Bool} (h1 : L.all (fun c => isCode c || P c) = true) (h2 : ∀ c ∈ L.filter isCode, P c = true) : L.all P = true := by
  refine List.all_eq_true.mpr fun c hc => ?_
  have h := List.all_eq_true.mp h1 c hc
  rcases Bool.eq_false_or_eq_true (isCode c) with hi | hi
  · exact h2 c (List.mem_filter.mpr ⟨hc, hi⟩)
  · simpa [hi] using h
set_option maxRecDepth 65536 in
theorem w_c0 : (Jvm.Cond.code x code maxLocals ret).before args0 about1 = true := code_word (m := ⟨1, 2⟩) (meth := k1m2) (c := k1c2) (by decide +kernel) rfl rfl rfl (by decide +kernel)
set_option maxRecDepth 65536 in
theorem w_c1 : (Jvm.Cond.code ({ cls := "com/example/pirm/pirm/wire/Varint", name := "length", desc := "(J)I" } : Jvm.MethodName) prog_63_method_2_code (5 : Nat) (Option.some Jvm.ClassFile.FieldType.int)).before args0 about1 = true := code_word (m := ⟨2, 1⟩) (meth := k2m1) (c := k2c1) (by decide +kernel) rfl rfl rfl (by decide +kernel)
set_option maxRecDepth 65536 in
theorem w_c2 : (Jvm.Cond.code ({ cls := "com/example/pirm/pirm/wire/VarintLengthPinLaw", name := "groups", desc := "(J)I" } : Jvm.MethodName) method_2_code (2 : Nat) (Option.some Jvm.ClassFile.FieldType.int)).before args0 about1 = true := code_word (m := ⟨1, 1⟩) (meth := k1m1) (c := k1c1) (by decide +kernel) rfl rfl rfl (by decide +kernel)
def codes1 : List Jvm.Cond := [Jvm.Cond.code x code maxLocals ret, Jvm.Cond.code ({ cls := "com/example/pirm/pirm/wire/Varint", name := "length", desc := "(J)I" } : Jvm.MethodName) prog_63_method_2_code (5 : Nat) (Option.some Jvm.ClassFile.FieldType.int), Jvm.Cond.code ({ cls := "com/example/pirm/pirm/wire/VarintLengthPinLaw", name := "groups", desc := "(J)I" } : Jvm.MethodName) method_2_code (2 : Nat) (Option.some Jvm.ClassFile.FieldType.int)]
set_option maxRecDepth 65536 in
theorem codes_eq : words1.filter isCode = codes1 := rfl
theorem w_codes : ∀ c ∈ words1.filter isCode, c.before args0 about1 = true := by
  rw [codes_eq]
  intro c hc
  simp only [codes1, List.mem_cons, List.not_mem_nil, or_false] at hc
  rcases hc with rfl | rfl | rfl
  · exact w_c0
  · exact w_c1
  · exact w_c2
set_option maxRecDepth 65536 in
theorem w_t1 : words1.all (fun c => isCode c || c.before args0 about1) = true := by decide +kernel
theorem w_tables : (allAtoms (Jvm.Cond.code x code maxLocals ret :: tables_1)).before args0 about1 = true := by
  rw [allAtoms_all]
  show words1.all (fun c => c.before args0 about1) = true
  refine all_split ?_ w_codes
  rw [w_t1]
set_option maxRecDepth 65536 in
theorem w_case : (Jvm.Cond.and given_1 narrow_1).before args0 about1 = true := by decide +kernel
theorem w_applies : (headSpec (Jvm.Cond.code x code maxLocals ret :: tables_1) room_1).applies x e0.platform about1 = true :=
  (Spec.applies_iff w_frames).mpr ⟨w_running, w_runnable, w_alone, w_named, w_hears, w_ripe, w_room, w_tables⟩
theorem atStart : AtStart classFile x code maxLocals ret World_1 tables_1 room_1 Calls_1 rest_1 Pre_1 launch0 p0 e0 about1 theMethod args0 below0 :=
  ⟨lists_1, trivial, launch0.admits_env _ _ _, launch0.least_env, fairChoices_fair.cas, fairChoices_fair.clock, w_frames, w_args, w_heap, w_applies, trivial, trivial, w_case⟩
end start1
theorem witness_1 : WitnessClaimed_1 := ⟨start1.p0, start1.e0, start1.about1, start1.theMethod, start1.args0, start1.below0, start1.atStart⟩
end Jvm.Pilot.@@N@@
