import JvmDerived
import JvmDerived.Pilot.@@N@@Statement
import JvmDerived.Pilot.@@N@@Code
set_option linter.unusedVariables false
set_option linter.unusedSimpArgs false
namespace Jvm.RoadKit
open Sem ClassFile Op Lib Jvm.Stand Jvm.Free Jvm.LawKit
section New
variable {p : Program} {l : Launch} {e : Env} {R : Room} {s : State} {m : MethodId} {args : Array Value} {below : List Frame} {meth : Method} {c : Code} {T : State} {locs : List Loc} {cells slots : Nat}
theorem retI (X : Stand p l e R s m args below meth c T locs cells slots) (hx : p.tables.exec = Jvm.exec) {pc : Nat} {Ls : Array Slot} {z : Int32} {rest : List Value} (hret : meth.sig.returnType = some .int) (hd : decode c.code pc = .ok (.ireturn, 1)) {fs : List Frame}
    (hl : ∀ (f : JFrame) (acts : List Action), f.method = m → f.locked = none → f.entered = [] → (doReturn e (T.setTop f) acts (some (.int z))).1 = T.setFrames fs) : Steps p.tables e below (T.setTop (mkF m pc Ls (.int z :: rest))) (T.setFrames fs) := by
  have hm' : T.vm.method? m = some meth := X.method'
  have hn : narrow .int (.int z) = .int z := rfl
  show Steps p.tables e below (T.setTop { method := m, pc := pc, locals := Ls, stack := _ :: rest, locked := none }) _
  jvm_step X.here [X.here.top, hx, hd, hm', hret, hn]
  first | (intro acts; rw [hl _ acts rfl rfl rfl]) | rw [hl _ _ rfl rfl rfl]
  exact Steps.refl _
end New
end Jvm.RoadKit
namespace Jvm.Pilot.@@N@@
open Jvm Jvm.ClassFile Sem Op Lib Jvm.Free Jvm.Stand Jvm.LawKit Jvm.RoadKit Bundle Jvm.Pilot.@@N@@.Jvm.D
theorem own_nar0 : nar .boolean (0 : Int32) = (0 : Int32) := rfl
theorem own_nar1 : nar .boolean (1 : Int32) = (1 : Int32) := rfl
def leastF (s : Int64) : Int32 := (s >>> ((32 : Int32) &&& 0x3f).toInt64).toInt32
def maskF (s : Int64) : Int32 := s.toInt32
def offF (s e : Int64) : Int64 := e - (leastF s).toInt64
def bitF (k : Int32) (o : Int32) : Int32 := ((k.toUInt32 >>> (o &&& 31).toUInt32).toInt32) &&& (1 : Int32)
def conF (s e : Int64) : Int32 := if s = 0 then 0 else if offF s e < 0 then 0 else if offF s e < 32 then (if bitF (maskF s) (offF s e).toInt32 = 1 then 1 else 0) else 0
def emptyF (o : Int32) : Int32 := if (o &&& 7) = 0 then 1 else 0
def nearF (o : Int32) : Int32 := if (o &&& 8) = 0 then 0 else 1
def orF (k : Int32) : Int32 := k ||| 1
def setF (l k o : Int32) : Int64 := if emptyF o = 0 then (l.toInt64 <<< ((32 : Int32) &&& 0x3f).toInt64) ||| ((orF k).toInt64 &&& (4294967295 : Int64)) else 0
def elF (l o : Int32) (e : Int64) : Int64 := if nearF o = 0 then e else l.toInt64 + (e - (e / (48 : Int64)) * (48 : Int64))
def ixF (l o : Int32) (e : Int64) : Int32 := (elF l o e - l.toInt64).toInt32
def expF (l k o : Int32) (e : Int64) : Int32 := if emptyF o = 0 then (if elF l o e < l.toInt64 then 0 else if l.toInt64 + (31 : Int64) < elF l o e then 0 else if bitF (orF k) (ixF l o e) = 0 then 0 else 1) else 0
def lawF (l k o : Int32) (e : Int64) : Int32 := if conF (setF l k o) (elF l o e) = expF l k o e then 1 else 0
theorem bitF_01 (k o : Int32) : bitF k o = 0 ∨ bitF k o = 1 := by
  have h : (bitF k o).toInt = _ := c_mask ((k.toUInt32 >>> (o &&& 31).toUInt32).toInt32) 1 1 (by decide) (by decide)
  rcases Int.emod_two_eq ((k.toUInt32 >>> (o &&& 31).toUInt32).toInt32).toInt with q | q
  · exact Or.inl (Int32.toInt_inj.mp (h.trans q))
  · exact Or.inr (Int32.toInt_inj.mp (h.trans q))
theorem odd_or (k : Int32) : (k ||| 1).toInt % 2 = 1 := by
  have h : ((k ||| 1) &&& 1 : Int32).toInt = (k ||| 1).toInt % (2 ^ 1 : Nat) := c_mask _ 1 1 (by decide) (by decide)
  have h2 : ((k ||| 1) &&& 1 : Int32) = 1 := by
    apply Int32.toBitVec_inj.mp
    show (k.toBitVec ||| 1#32) &&& 1#32 = 1#32
    ext i hi
    simp only [BitVec.getElem_and, BitVec.getElem_or]
    cases h : (1#32)[i] <;> simp
  rw [h2] at h
  exact h.symm
theorem set_facts (l k : Int32) : (((l.toInt64 <<< ((32 : Int32) &&& 0x3f).toInt64) ||| (k.toInt64 &&& (4294967295 : Int64))).toInt - (l.toInt * 4294967296 + k.toInt % 4294967296)) % 18446744073709551616 = 0 := by
  have h1 := c_lshl l.toInt64 32 32 (by decide)
  rw [c_i2l] at h1
  have h2 : (k.toInt64 &&& (4294967295 : Int64)).toInt = _ := c_maskL k.toInt64 4294967295 32 (by decide) (by decide)
  rw [c_i2l] at h2
  have h3 := c_orL (l.toInt64 <<< ((32 : Int32) &&& 0x3f).toInt64) (k.toInt64 &&& (4294967295 : Int64)) 32 (by decide) 4294967296 (by decide) (by omega) (by omega) (by omega)
  omega
theorem lawF_one (l k o : Int32) (e : Int64) : lawF l k o e = 1 := by
  refine if_pos ?_
  by_cases he : emptyF o = 0
  · have e1 : setF l k o = (l.toInt64 <<< ((32 : Int32) &&& 0x3f).toInt64) ||| ((orF k).toInt64 &&& (4294967295 : Int64)) := if_pos he
    have hs := set_facts l (orF k)
    rw [← e1] at hs
    have ho : (orF k).toInt % 2 = 1 := odd_or k
    have rl := rng32 l
    have rk := rng32 (orF k)
    have rs := rng64 (setF l k o)
    have n0 : ¬ setF l k o = 0 := fun q => by rw [q, show (0 : Int64).toInt = 0 from rfl] at hs; omega
    have hl : leastF (setF l k o) = l := by
      apply Int32.toInt_inj.mp
      have a1 := c_lshr (setF l k o) 32 32 (by decide)
      have a2 := c_l2i (setF l k o >>> ((32 : Int32) &&& 0x3f).toInt64)
      have a3 := rng32 (leastF (setF l k o))
      change ((leastF (setF l k o)).toInt - _) % _ = _ at a2
      omega
    have hm : maskF (setF l k o) = orF k := by
      apply Int32.toInt_inj.mp
      have a2 := c_l2i (setF l k o)
      have a3 := rng32 (maskF (setF l k o))
      change ((maskF (setF l k o)).toInt - _) % _ = _ at a2
      omega
    have hO : offF (setF l k o) (elF l o e) = elF l o e - l.toInt64 := by unfold offF; rw [hl]
    unfold conF expF
    rw [if_neg n0, if_pos he, hO, hm]
    change _ = if elF l o e < l.toInt64 then 0 else if l.toInt64 + (31 : Int64) < elF l o e then 0 else if bitF (orF k) (elF l o e - l.toInt64).toInt32 = 0 then 0 else 1
    generalize elF l o e = E
    have rE := rng64 E
    have b1 := c_lsub E l.toInt64
    have b2 := rng64 (E - l.toInt64)
    have b3 := c_ladd l.toInt64 31
    rw [c_i2l] at b1 b3
    rw [show (31 : Int64).toInt = 31 from rfl] at b3
    have b4 := rng64 (l.toInt64 + 31)
    have b5 := c_i2l l
    simp only [Int64.lt_iff_toInt_lt, show (0 : Int64).toInt = 0 from rfl, show (32 : Int64).toInt = 32 from rfl]
    by_cases q1 : E.toInt < l.toInt64.toInt
    · rw [if_pos q1]
      by_cases q2 : (E - l.toInt64).toInt < 0
      · rw [if_pos q2]
      · rw [if_neg q2, if_neg (by omega)]
    · rw [if_neg q1]
      by_cases q3 : (l.toInt64 + 31).toInt < E.toInt
      · rw [if_pos q3]
        by_cases q2 : (E - l.toInt64).toInt < 0
        · rw [if_pos q2]
        · rw [if_neg q2, if_neg (by omega)]
      · rw [if_neg q3, if_neg (by omega), if_pos (by omega)]
        rcases bitF_01 (orF k) (E - l.toInt64).toInt32 with q | q <;> rw [q] <;> rfl
  · have e1 : setF l k o = 0 := if_neg he
    rw [e1]
    unfold conF expF
    rw [if_pos rfl, if_neg he]
def s13F (l o : Int32) (e : Int64) : Slot := if emptyF o = 0 then (if elF l o e < l.toInt64 then .unset else if l.toInt64 + (31 : Int64) < elF l o e then .unset else .val (.int (ixF l o e))) else .unset
theorem d_prog_53_method_11_0 : decode prog_53_method_11_code 0 = .ok (.lload_n 0, 1) := by decide +kernel
theorem d_prog_53_method_11_1 : decode prog_53_method_11_code 1 = .ok (.bipush 32, 2) := by decide +kernel
theorem d_prog_53_method_11_3 : decode prog_53_method_11_code 3 = .ok (.lshr, 1) := by decide +kernel
theorem d_prog_53_method_11_4 : decode prog_53_method_11_code 4 = .ok (.l2i, 1) := by decide +kernel
theorem d_prog_53_method_11_5 : decode prog_53_method_11_code 5 = .ok (.ireturn, 1) := by decide +kernel
theorem pn_0 : plainName "com/example/rbmc/rbmc/SmallSet" = true := by first | (simp [plainName, overriddenIn]; done) | decide +kernel
theorem ef_least (m : MethodId) (xs : Int64) : entryFrame m #[(.long xs)] 2 = mkF m 0 #[.val (.long xs), .second] [] := by first | (simp [entryFrame, mkF, argsToLocals, Value.category]; done) | rfl
def Q_least (Z : State) (xs : Int64) (h0 : Heap) (n0 : Nat) (v : Option Value) (h : Heap) (L : List Loc) : Prop := v = some (.int (leastF xs)) ∧ Fr n0 L ∧ h = h0
set_option maxRecDepth 65536 in
set_option maxHeartbeats 40000000 in
theorem rm_least (l : Launch) (Z : State) (a0 : Array Value) (hw : ∀ d ∈ tables_1, d.before a0 Z = true) (ws : List Jvm.Cond) (xs : Int64) (h0 : Heap) (n0 : Nat) (Z0 : n0 ≤ h0.size) :
    MetFree l (⟨"com/example/rbmc/rbmc/SmallSet", "least", "(J)I"⟩ : MethodName) (head1 (Jvm.Cond.code (⟨"com/example/rbmc/rbmc/SmallSet", "least", "(J)I"⟩ : MethodName) prog_53_method_11_code 2 (some .int) :: ws) ({ frames := 0, cells := 0, slots := 0, locals := 0 } : Room)) (fun a U => a = #[(.long xs)] ∧ Z.Warmed39 U.vm ∧ U.heap = h0) (fun _ _ _ _ _ => True) (fun _ U o U' => ∃ v L, o = .returned v ∧ Q_least Z xs h0 n0 v U'.heap L ∧ FrameEnd U o U' L ({ frames := 0, cells := 0, slots := 0, locals := 0 } : Room).cells ({ frames := 0, cells := 0, slots := 0, locals := 0 } : Room).slots) := by
  refine MetFree.of_bodySF (plainFor_of_name pn_0) hisR ?_
  intro p e s m args below meth c s₁ Bd hml0 hP hK
  obtain ⟨rfl, hZ, hh⟩ := hP
  have hx := Bd.exec
  have hby := Bd.bytes
  have hml : c.maxLocals = 2 := hml0
  have hown : s.vm.findClass "com/example/rbmc/rbmc/SmallSet" = some m.cls := findClass_of_methodNamed Bd.named
  have X0 : Stand p l e ({ frames := 0, cells := 0, slots := 0, locals := 0 } : Room) s m #[(.long xs)] below meth c s₁ [] 0 0 := Stand.of_body Bd
  have e0 : s₁.heap = h0 := by rw [← hh, Bd.state]; rfl
  have N0 := Fr.nil n0
  have pre0 : ∀ t, Steps p.tables e below (s₁.setTop (mkF m 0 #[.val (.long xs), .second] [])) t → Steps p.tables e below (s₁.setTop (entryFrame m #[(.long xs)] 2)) t := fun t k => castTop (ef_least m xs) k
  obtain ⟨fs, hr, hrun, hended, hW, hsame⟩ := X0.leave (v := some (.int (leastF xs))) (fun h => by rw [Bd.returns] at h; cases h)
  refine ⟨_, _, pre0 _ ?_, hrun, hended, _, _, rfl, ?_, ⟨_, rfl⟩, hW, hsame.mono (by decide) (by decide)⟩
  · show Steps p.tables e below (s₁.setTop (mkF m 0 #[.val (.long xs), .second] [])) _
    refine XS.lloadN X0.here hx rfl (hb hby d_prog_53_method_11_0) rfl ?_
    show Steps p.tables e below (s₁.setTop (mkF m 1 #[.val (.long xs), .second] [(.long xs)])) _
    refine XS.bipush X0.here hx rfl (hb hby d_prog_53_method_11_1) ?_
    show Steps p.tables e below (s₁.setTop (mkF m 3 #[.val (.long xs), .second] [(.int (32 : Int32)), (.long xs)])) _
    refine XS.lshr X0.here hx rfl (hb hby d_prog_53_method_11_3) rfl ?_
    show Steps p.tables e below (s₁.setTop (mkF m 4 #[.val (.long xs), .second] [(.long (xs >>> ((32 : Int32) &&& 0x3f).toInt64))])) _
    refine XS.l2i X0.here hx rfl (hb hby d_prog_53_method_11_4) rfl ?_
    show Steps p.tables e below (s₁.setTop (mkF m 5 #[.val (.long xs), .second] [(.int (leastF xs))])) _
    exact retI X0 hx Bd.returns (hb hby d_prog_53_method_11_5) hr
  · show Q_least Z xs h0 n0 _ s₁.heap _
    exact ⟨rfl, N0, e0⟩
theorem d_prog_53_method_14_0 : decode prog_53_method_14_code 0 = .ok (.lload_n 0, 1) := by decide +kernel
theorem d_prog_53_method_14_1 : decode prog_53_method_14_code 1 = .ok (.l2i, 1) := by decide +kernel
theorem d_prog_53_method_14_2 : decode prog_53_method_14_code 2 = .ok (.ireturn, 1) := by decide +kernel
theorem ef_mask (m : MethodId) (xs : Int64) : entryFrame m #[(.long xs)] 2 = mkF m 0 #[.val (.long xs), .second] [] := by first | (simp [entryFrame, mkF, argsToLocals, Value.category]; done) | rfl
def Q_mask (Z : State) (xs : Int64) (h0 : Heap) (n0 : Nat) (v : Option Value) (h : Heap) (L : List Loc) : Prop := v = some (.int (maskF xs)) ∧ Fr n0 L ∧ h = h0
set_option maxRecDepth 65536 in
set_option maxHeartbeats 40000000 in
theorem rm_mask (l : Launch) (Z : State) (a0 : Array Value) (hw : ∀ d ∈ tables_1, d.before a0 Z = true) (ws : List Jvm.Cond) (xs : Int64) (h0 : Heap) (n0 : Nat) (Z0 : n0 ≤ h0.size) :
    MetFree l (⟨"com/example/rbmc/rbmc/SmallSet", "mask", "(J)I"⟩ : MethodName) (head1 (Jvm.Cond.code (⟨"com/example/rbmc/rbmc/SmallSet", "mask", "(J)I"⟩ : MethodName) prog_53_method_14_code 2 (some .int) :: ws) ({ frames := 0, cells := 0, slots := 0, locals := 0 } : Room)) (fun a U => a = #[(.long xs)] ∧ Z.Warmed39 U.vm ∧ U.heap = h0) (fun _ _ _ _ _ => True) (fun _ U o U' => ∃ v L, o = .returned v ∧ Q_mask Z xs h0 n0 v U'.heap L ∧ FrameEnd U o U' L ({ frames := 0, cells := 0, slots := 0, locals := 0 } : Room).cells ({ frames := 0, cells := 0, slots := 0, locals := 0 } : Room).slots) := by
  refine MetFree.of_bodySF (plainFor_of_name pn_0) hisR ?_
  intro p e s m args below meth c s₁ Bd hml0 hP hK
  obtain ⟨rfl, hZ, hh⟩ := hP
  have hx := Bd.exec
  have hby := Bd.bytes
  have hml : c.maxLocals = 2 := hml0
  have hown : s.vm.findClass "com/example/rbmc/rbmc/SmallSet" = some m.cls := findClass_of_methodNamed Bd.named
  have X0 : Stand p l e ({ frames := 0, cells := 0, slots := 0, locals := 0 } : Room) s m #[(.long xs)] below meth c s₁ [] 0 0 := Stand.of_body Bd
  have e0 : s₁.heap = h0 := by rw [← hh, Bd.state]; rfl
  have N0 := Fr.nil n0
  have pre0 : ∀ t, Steps p.tables e below (s₁.setTop (mkF m 0 #[.val (.long xs), .second] [])) t → Steps p.tables e below (s₁.setTop (entryFrame m #[(.long xs)] 2)) t := fun t k => castTop (ef_mask m xs) k
  obtain ⟨fs, hr, hrun, hended, hW, hsame⟩ := X0.leave (v := some (.int (maskF xs))) (fun h => by rw [Bd.returns] at h; cases h)
  refine ⟨_, _, pre0 _ ?_, hrun, hended, _, _, rfl, ?_, ⟨_, rfl⟩, hW, hsame.mono (by decide) (by decide)⟩
  · show Steps p.tables e below (s₁.setTop (mkF m 0 #[.val (.long xs), .second] [])) _
    refine XS.lloadN X0.here hx rfl (hb hby d_prog_53_method_14_0) rfl ?_
    show Steps p.tables e below (s₁.setTop (mkF m 1 #[.val (.long xs), .second] [(.long xs)])) _
    refine XS.l2i X0.here hx rfl (hb hby d_prog_53_method_14_1) rfl ?_
    show Steps p.tables e below (s₁.setTop (mkF m 2 #[.val (.long xs), .second] [(.int (maskF xs))])) _
    exact retI X0 hx Bd.returns (hb hby d_prog_53_method_14_2) hr
  · show Q_mask Z xs h0 n0 _ s₁.heap _
    exact ⟨rfl, N0, e0⟩
theorem d_prog_53_method_6_0 : decode prog_53_method_6_code 0 = .ok (.lload_n 2, 1) := by decide +kernel
theorem d_prog_53_method_6_1 : decode prog_53_method_6_code 1 = .ok (.lload_n 0, 1) := by decide +kernel
theorem d_prog_53_method_6_2 : decode prog_53_method_6_code 2 = .ok (.invokestatic 17, 3) := by decide +kernel
theorem d_prog_53_method_6_5 : decode prog_53_method_6_code 5 = .ok (.i2l, 1) := by decide +kernel
theorem d_prog_53_method_6_6 : decode prog_53_method_6_code 6 = .ok (.lsub, 1) := by decide +kernel
theorem d_prog_53_method_6_7 : decode prog_53_method_6_code 7 = .ok (.lstore 4, 2) := by decide +kernel
theorem d_prog_53_method_6_9 : decode prog_53_method_6_code 9 = .ok (.lload_n 0, 1) := by decide +kernel
theorem d_prog_53_method_6_10 : decode prog_53_method_6_code 10 = .ok (.lconst 0, 1) := by decide +kernel
theorem d_prog_53_method_6_11 : decode prog_53_method_6_code 11 = .ok (.lcmp, 1) := by decide +kernel
theorem d_prog_53_method_6_12 : decode prog_53_method_6_code 12 = .ok (.ifCond .eq 37, 3) := by decide +kernel
theorem d_prog_53_method_6_15 : decode prog_53_method_6_code 15 = .ok (.lload 4, 2) := by decide +kernel
theorem d_prog_53_method_6_17 : decode prog_53_method_6_code 17 = .ok (.lconst 0, 1) := by decide +kernel
theorem d_prog_53_method_6_18 : decode prog_53_method_6_code 18 = .ok (.lcmp, 1) := by decide +kernel
theorem d_prog_53_method_6_19 : decode prog_53_method_6_code 19 = .ok (.ifCond .lt 30, 3) := by decide +kernel
theorem d_prog_53_method_6_22 : decode prog_53_method_6_code 22 = .ok (.lload 4, 2) := by decide +kernel
theorem d_prog_53_method_6_24 : decode prog_53_method_6_code 24 = .ok (.ldc2_w 38, 3) := by decide +kernel
theorem d_prog_53_method_6_27 : decode prog_53_method_6_code 27 = .ok (.lcmp, 1) := by decide +kernel
theorem d_prog_53_method_6_28 : decode prog_53_method_6_code 28 = .ok (.ifCond .ge 21, 3) := by decide +kernel
theorem d_prog_53_method_6_31 : decode prog_53_method_6_code 31 = .ok (.lload_n 0, 1) := by decide +kernel
theorem d_prog_53_method_6_32 : decode prog_53_method_6_code 32 = .ok (.invokestatic 33, 3) := by decide +kernel
theorem d_prog_53_method_6_35 : decode prog_53_method_6_code 35 = .ok (.lload 4, 2) := by decide +kernel
theorem d_prog_53_method_6_37 : decode prog_53_method_6_code 37 = .ok (.l2i, 1) := by decide +kernel
theorem d_prog_53_method_6_38 : decode prog_53_method_6_code 38 = .ok (.iushr, 1) := by decide +kernel
theorem d_prog_53_method_6_39 : decode prog_53_method_6_code 39 = .ok (.iconst 1, 1) := by decide +kernel
theorem d_prog_53_method_6_40 : decode prog_53_method_6_code 40 = .ok (.iand, 1) := by decide +kernel
theorem d_prog_53_method_6_41 : decode prog_53_method_6_code 41 = .ok (.iconst 1, 1) := by decide +kernel
theorem d_prog_53_method_6_42 : decode prog_53_method_6_code 42 = .ok (.if_icmp .ne 7, 3) := by decide +kernel
theorem d_prog_53_method_6_45 : decode prog_53_method_6_code 45 = .ok (.iconst 1, 1) := by decide +kernel
theorem d_prog_53_method_6_46 : decode prog_53_method_6_code 46 = .ok (.goto 4, 3) := by decide +kernel
theorem d_prog_53_method_6_49 : decode prog_53_method_6_code 49 = .ok (.iconst 0, 1) := by decide +kernel
theorem d_prog_53_method_6_50 : decode prog_53_method_6_code 50 = .ok (.ireturn, 1) := by decide +kernel
theorem pd_0 : parseMethodDescriptor "(J)I" = some ⟨[.long], some .int⟩ := by decide +kernel
theorem ef_con (m : MethodId) (xs : Int64) (xe : Int64) : entryFrame m #[(.long xs), (.long xe)] 6 = mkF m 0 #[.val (.long xs), .second, .val (.long xe), .second, .unset, .unset] [] := by first | (simp [entryFrame, mkF, argsToLocals, Value.category]; done) | rfl
def Q_con (Z : State) (xs : Int64) (xe : Int64) (h0 : Heap) (n0 : Nat) (v : Option Value) (h : Heap) (L : List Loc) : Prop := v = some (.int (conF xs xe)) ∧ Fr n0 L ∧ h = h0
set_option maxRecDepth 65536 in
set_option maxHeartbeats 40000000 in
theorem rm_con (l : Launch) (Z : State) (a0 : Array Value) (hw : ∀ d ∈ tables_1, d.before a0 Z = true) (ws : List Jvm.Cond) (xs : Int64) (xe : Int64) (h0 : Heap) (n0 : Nat) (Z0 : n0 ≤ h0.size) :
    MetFree l (⟨"com/example/rbmc/rbmc/SmallSet", "contains", "(JJ)Z"⟩ : MethodName) (head1 (Jvm.Cond.code (⟨"com/example/rbmc/rbmc/SmallSet", "contains", "(JJ)Z"⟩ : MethodName) prog_53_method_6_code 6 (some .boolean) :: ws) ({ frames := 1, cells := 0, slots := 0, locals := 15 } : Room)) (fun a U => a = #[(.long xs), (.long xe)] ∧ Z.Warmed39 U.vm ∧ U.heap = h0) (fun _ _ _ _ _ => True) (fun _ U o U' => ∃ v L, o = .returned v ∧ Q_con Z xs xe h0 n0 v U'.heap L ∧ FrameEnd U o U' L ({ frames := 1, cells := 0, slots := 0, locals := 15 } : Room).cells ({ frames := 1, cells := 0, slots := 0, locals := 15 } : Room).slots) := by
  refine MetFree.of_bodySF (plainFor_of_name pn_0) hisR ?_
  intro p e s m args below meth c s₁ Bd hml0 hP hK
  obtain ⟨rfl, hZ, hh⟩ := hP
  have hx := Bd.exec
  have hby := Bd.bytes
  have hml : c.maxLocals = 6 := hml0
  have hown : s.vm.findClass "com/example/rbmc/rbmc/SmallSet" = some m.cls := findClass_of_methodNamed Bd.named
  have X0 : Stand p l e ({ frames := 1, cells := 0, slots := 0, locals := 15 } : Room) s m #[(.long xs), (.long xe)] below meth c s₁ [] 0 0 := Stand.of_body Bd
  have e0 : s₁.heap = h0 := by rw [← hh, Bd.state]; rfl
  have N0 := Fr.nil n0
  have pre0 : ∀ t, Steps p.tables e below (s₁.setTop (mkF m 0 #[.val (.long xs), .second, .val (.long xe), .second, .unset, .unset] [])) t → Steps p.tables e below (s₁.setTop (entryFrame m #[(.long xs), (.long xe)] 6)) t := fun t k => castTop (ef_con m xs xe) k
  by_cases hc12 : xs = (0 : Int64)
  · obtain ⟨_, _, ⟨T1, L1, k1, n1⟩, -, X1, ⟨Lc1, hQ1, l1, y1, z1⟩, st1⟩ := Jvm.LawKit.callS X0 hx (y := (⟨"com/example/rbmc/rbmc/SmallSet", "least", "(J)I"⟩ : MethodName)) hown (mvT hZ (hw _ (List.mem_of_getElem? (i := 4) rfl))) (mvT hZ (hw _ (List.mem_of_getElem? (i := 5) rfl))) (mvT hZ (hw _ (List.mem_of_getElem? (i := 2) rfl))) (mvT hZ (hw _ (List.mem_of_getElem? (i := 6) rfl))) (by decide) (backOf (W := 2) (rm_least l Z a0 hw [] xs h0 n0 Z0) hZ (hw _ (List.mem_of_getElem? (i := 6) rfl)) (hw _ (List.mem_of_getElem? (i := 2) rfl)) (by decide) (by decide)) (g := (mkF m 2 #[.val (.long xs), .second, .val (.long xe), .second, .unset, .unset] [(.long xs), (.long xe)])) rfl (by rw [hml]; rfl) (argsL := [(.long xs)]) (rest := [(.long xe)]) (lenOf pd_0 rfl) rfl (by show 2 * 0 + _ ≤ _; exact Nat.le_of_eq rfl) (hb hby d_prog_53_method_6_2) (fun _ _ => ⟨rfl, e0, (by decide : 0 + 0 ≤ _), (by decide : 0 + 0 ≤ _)⟩)
    dsimp only [Pt.U, Pt.locs, Pt.cells, Pt.slots] at X1 l1 y1 z1 st1 hQ1
    subst l1 y1 z1
    obtain ⟨rfl, N1q, e1⟩ := hQ1
    have N1 := Fr.app N0 N1q
    obtain ⟨fs, hr, hrun, hended, hW, hsame⟩ := X1.leave (v := some (.int (conF xs xe))) (fun h => by rw [Bd.returns] at h; cases h)
    refine ⟨_, _, pre0 _ ?_, hrun, hended, _, _, rfl, ?_, ⟨_, rfl⟩, hW, hsame.mono (by decide) (by decide)⟩
    · show Steps p.tables e below (s₁.setTop (mkF m 0 #[.val (.long xs), .second, .val (.long xe), .second, .unset, .unset] [])) _
      refine XS.lloadN X0.here hx rfl (hb hby d_prog_53_method_6_0) rfl ?_
      show Steps p.tables e below (s₁.setTop (mkF m 1 #[.val (.long xs), .second, .val (.long xe), .second, .unset, .unset] [(.long xe)])) _
      refine XS.lloadN X0.here hx rfl (hb hby d_prog_53_method_6_1) rfl ?_
      show Steps p.tables e below (s₁.setTop (mkF m 2 #[.val (.long xs), .second, .val (.long xe), .second, .unset, .unset] [(.long xs), (.long xe)])) _
      refine st1 _ ?_
      show Steps p.tables e below (T1.setTop (mkF m 5 #[.val (.long xs), .second, .val (.long xe), .second, .unset, .unset] [(.int (leastF xs)), (.long xe)])) _
      refine XS.i2l X1.here hx rfl (hb hby d_prog_53_method_6_5) rfl ?_
      show Steps p.tables e below (T1.setTop (mkF m 6 #[.val (.long xs), .second, .val (.long xe), .second, .unset, .unset] [(.long ((leastF xs).toInt64)), (.long xe)])) _
      refine XS.lsub X1.here hx rfl (hb hby d_prog_53_method_6_6) rfl ?_
      show Steps p.tables e below (T1.setTop (mkF m 7 #[.val (.long xs), .second, .val (.long xe), .second, .unset, .unset] [(.long (offF xs xe))])) _
      refine XS.lstore X1.here hx rfl (hb hby d_prog_53_method_6_7) rfl (l' := #[.val (.long xs), .second, .val (.long xe), .second, .val (.long (offF xs xe)), .second]) rfl ?_
      show Steps p.tables e below (T1.setTop (mkF m 9 #[.val (.long xs), .second, .val (.long xe), .second, .val (.long (offF xs xe)), .second] [])) _
      refine XS.lloadN X1.here hx rfl (hb hby d_prog_53_method_6_9) rfl ?_
      show Steps p.tables e below (T1.setTop (mkF m 10 #[.val (.long xs), .second, .val (.long xe), .second, .val (.long (offF xs xe)), .second] [(.long xs)])) _
      refine XS.lconst X1.here hx rfl (hb hby d_prog_53_method_6_10) ?_
      show Steps p.tables e below (T1.setTop (mkF m 11 #[.val (.long xs), .second, .val (.long xe), .second, .val (.long (offF xs xe)), .second] [(.long (0 : Int64)), (.long xs)])) _
      refine XS.lcmp X1.here hx rfl (hb hby d_prog_53_method_6_11) rfl ?_
      show Steps p.tables e below (T1.setTop (mkF m 12 #[.val (.long xs), .second, .val (.long xe), .second, .val (.long (offF xs xe)), .second] [(.int (lcmpW xs (0 : Int64)))])) _
      refine XS.ifYes X1.here hx rfl (pc0 := 12) (pc' := 49) rfl (hb hby d_prog_53_method_6_12) rfl ((if0 _ _).trans (teq ((lw_eq _ _).2 hc12)).1) (by decide) (by decide) ?_
      show Steps p.tables e below (T1.setTop (mkF m 49 #[.val (.long xs), .second, .val (.long xe), .second, .val (.long (offF xs xe)), .second] [])) _
      refine XS.iconst X1.here hx rfl (hb hby d_prog_53_method_6_49) ?_
      show Steps p.tables e below (T1.setTop (mkF m 50 #[.val (.long xs), .second, .val (.long xe), .second, .val (.long (offF xs xe)), .second] [(.int (0 : Int32))])) _
      exact retN X1 hx (t := .boolean) Bd.returns (by simp) (hb hby d_prog_53_method_6_50) (by rw [show nar .boolean (0 : Int32) = (conF xs xe) from (own_nar0).trans (by simp only [conF, hc12, eq_self, if_true, if_false])]; exact hr)
    · show Q_con Z xs xe h0 n0 _ T1.heap _
      exact ⟨rfl, N1, e1⟩
  · by_cases hc19 : (offF xs xe) < (0 : Int64)
    · obtain ⟨_, _, ⟨T2, L2, k2, n2⟩, -, X2, ⟨Lc2, hQ2, l2, y2, z2⟩, st2⟩ := Jvm.LawKit.callS X0 hx (y := (⟨"com/example/rbmc/rbmc/SmallSet", "least", "(J)I"⟩ : MethodName)) hown (mvT hZ (hw _ (List.mem_of_getElem? (i := 4) rfl))) (mvT hZ (hw _ (List.mem_of_getElem? (i := 5) rfl))) (mvT hZ (hw _ (List.mem_of_getElem? (i := 2) rfl))) (mvT hZ (hw _ (List.mem_of_getElem? (i := 6) rfl))) (by decide) (backOf (W := 2) (rm_least l Z a0 hw [] xs h0 n0 Z0) hZ (hw _ (List.mem_of_getElem? (i := 6) rfl)) (hw _ (List.mem_of_getElem? (i := 2) rfl)) (by decide) (by decide)) (g := (mkF m 2 #[.val (.long xs), .second, .val (.long xe), .second, .unset, .unset] [(.long xs), (.long xe)])) rfl (by rw [hml]; rfl) (argsL := [(.long xs)]) (rest := [(.long xe)]) (lenOf pd_0 rfl) rfl (by show 2 * 0 + _ ≤ _; exact Nat.le_of_eq rfl) (hb hby d_prog_53_method_6_2) (fun _ _ => ⟨rfl, e0, (by decide : 0 + 0 ≤ _), (by decide : 0 + 0 ≤ _)⟩)
      dsimp only [Pt.U, Pt.locs, Pt.cells, Pt.slots] at X2 l2 y2 z2 st2 hQ2
      subst l2 y2 z2
      obtain ⟨rfl, N2q, e2⟩ := hQ2
      have N2 := Fr.app N0 N2q
      obtain ⟨fs, hr, hrun, hended, hW, hsame⟩ := X2.leave (v := some (.int (conF xs xe))) (fun h => by rw [Bd.returns] at h; cases h)
      refine ⟨_, _, pre0 _ ?_, hrun, hended, _, _, rfl, ?_, ⟨_, rfl⟩, hW, hsame.mono (by decide) (by decide)⟩
      · show Steps p.tables e below (s₁.setTop (mkF m 0 #[.val (.long xs), .second, .val (.long xe), .second, .unset, .unset] [])) _
        refine XS.lloadN X0.here hx rfl (hb hby d_prog_53_method_6_0) rfl ?_
        show Steps p.tables e below (s₁.setTop (mkF m 1 #[.val (.long xs), .second, .val (.long xe), .second, .unset, .unset] [(.long xe)])) _
        refine XS.lloadN X0.here hx rfl (hb hby d_prog_53_method_6_1) rfl ?_
        show Steps p.tables e below (s₁.setTop (mkF m 2 #[.val (.long xs), .second, .val (.long xe), .second, .unset, .unset] [(.long xs), (.long xe)])) _
        refine st2 _ ?_
        show Steps p.tables e below (T2.setTop (mkF m 5 #[.val (.long xs), .second, .val (.long xe), .second, .unset, .unset] [(.int (leastF xs)), (.long xe)])) _
        refine XS.i2l X2.here hx rfl (hb hby d_prog_53_method_6_5) rfl ?_
        show Steps p.tables e below (T2.setTop (mkF m 6 #[.val (.long xs), .second, .val (.long xe), .second, .unset, .unset] [(.long ((leastF xs).toInt64)), (.long xe)])) _
        refine XS.lsub X2.here hx rfl (hb hby d_prog_53_method_6_6) rfl ?_
        show Steps p.tables e below (T2.setTop (mkF m 7 #[.val (.long xs), .second, .val (.long xe), .second, .unset, .unset] [(.long (offF xs xe))])) _
        refine XS.lstore X2.here hx rfl (hb hby d_prog_53_method_6_7) rfl (l' := #[.val (.long xs), .second, .val (.long xe), .second, .val (.long (offF xs xe)), .second]) rfl ?_
        show Steps p.tables e below (T2.setTop (mkF m 9 #[.val (.long xs), .second, .val (.long xe), .second, .val (.long (offF xs xe)), .second] [])) _
        refine XS.lloadN X2.here hx rfl (hb hby d_prog_53_method_6_9) rfl ?_
        show Steps p.tables e below (T2.setTop (mkF m 10 #[.val (.long xs), .second, .val (.long xe), .second, .val (.long (offF xs xe)), .second] [(.long xs)])) _
        refine XS.lconst X2.here hx rfl (hb hby d_prog_53_method_6_10) ?_
        show Steps p.tables e below (T2.setTop (mkF m 11 #[.val (.long xs), .second, .val (.long xe), .second, .val (.long (offF xs xe)), .second] [(.long (0 : Int64)), (.long xs)])) _
        refine XS.lcmp X2.here hx rfl (hb hby d_prog_53_method_6_11) rfl ?_
        show Steps p.tables e below (T2.setTop (mkF m 12 #[.val (.long xs), .second, .val (.long xe), .second, .val (.long (offF xs xe)), .second] [(.int (lcmpW xs (0 : Int64)))])) _
        refine XS.ifNo X2.here hx rfl (hb hby d_prog_53_method_6_12) rfl ((if0 _ _).trans (feq (fun q => hc12 ((lw_eq _ _).1 q))).1) ?_
        show Steps p.tables e below (T2.setTop (mkF m 15 #[.val (.long xs), .second, .val (.long xe), .second, .val (.long (offF xs xe)), .second] [])) _
        refine XS.lload X2.here hx rfl (hb hby d_prog_53_method_6_15) rfl ?_
        show Steps p.tables e below (T2.setTop (mkF m 17 #[.val (.long xs), .second, .val (.long xe), .second, .val (.long (offF xs xe)), .second] [(.long (offF xs xe))])) _
        refine XS.lconst X2.here hx rfl (hb hby d_prog_53_method_6_17) ?_
        show Steps p.tables e below (T2.setTop (mkF m 18 #[.val (.long xs), .second, .val (.long xe), .second, .val (.long (offF xs xe)), .second] [(.long (0 : Int64)), (.long (offF xs xe))])) _
        refine XS.lcmp X2.here hx rfl (hb hby d_prog_53_method_6_18) rfl ?_
        show Steps p.tables e below (T2.setTop (mkF m 19 #[.val (.long xs), .second, .val (.long xe), .second, .val (.long (offF xs xe)), .second] [(.int (lcmpW (offF xs xe) (0 : Int64)))])) _
        refine XS.ifYes X2.here hx rfl (pc0 := 19) (pc' := 49) rfl (hb hby d_prog_53_method_6_19) rfl ((if0 _ _).trans (tlt ((lw_lt _ _).2 hc19)).1) (by decide) (by decide) ?_
        show Steps p.tables e below (T2.setTop (mkF m 49 #[.val (.long xs), .second, .val (.long xe), .second, .val (.long (offF xs xe)), .second] [])) _
        refine XS.iconst X2.here hx rfl (hb hby d_prog_53_method_6_49) ?_
        show Steps p.tables e below (T2.setTop (mkF m 50 #[.val (.long xs), .second, .val (.long xe), .second, .val (.long (offF xs xe)), .second] [(.int (0 : Int32))])) _
        exact retN X2 hx (t := .boolean) Bd.returns (by simp) (hb hby d_prog_53_method_6_50) (by rw [show nar .boolean (0 : Int32) = (conF xs xe) from (own_nar0).trans (by simp only [conF, hc12, hc19, eq_self, if_true, if_false])]; exact hr)
      · show Q_con Z xs xe h0 n0 _ T2.heap _
        exact ⟨rfl, N2, e2⟩
    · by_cases hc28 : (offF xs xe) < (32 : Int64)
      · obtain ⟨_, _, ⟨T3, L3, k3, n3⟩, -, X3, ⟨Lc3, hQ3, l3, y3, z3⟩, st3⟩ := Jvm.LawKit.callS X0 hx (y := (⟨"com/example/rbmc/rbmc/SmallSet", "least", "(J)I"⟩ : MethodName)) hown (mvT hZ (hw _ (List.mem_of_getElem? (i := 4) rfl))) (mvT hZ (hw _ (List.mem_of_getElem? (i := 5) rfl))) (mvT hZ (hw _ (List.mem_of_getElem? (i := 2) rfl))) (mvT hZ (hw _ (List.mem_of_getElem? (i := 6) rfl))) (by decide) (backOf (W := 2) (rm_least l Z a0 hw [] xs h0 n0 Z0) hZ (hw _ (List.mem_of_getElem? (i := 6) rfl)) (hw _ (List.mem_of_getElem? (i := 2) rfl)) (by decide) (by decide)) (g := (mkF m 2 #[.val (.long xs), .second, .val (.long xe), .second, .unset, .unset] [(.long xs), (.long xe)])) rfl (by rw [hml]; rfl) (argsL := [(.long xs)]) (rest := [(.long xe)]) (lenOf pd_0 rfl) rfl (by show 2 * 0 + _ ≤ _; exact Nat.le_of_eq rfl) (hb hby d_prog_53_method_6_2) (fun _ _ => ⟨rfl, e0, (by decide : 0 + 0 ≤ _), (by decide : 0 + 0 ≤ _)⟩)
        dsimp only [Pt.U, Pt.locs, Pt.cells, Pt.slots] at X3 l3 y3 z3 st3 hQ3
        subst l3 y3 z3
        obtain ⟨rfl, N3q, e3⟩ := hQ3
        have N3 := Fr.app N0 N3q
        obtain ⟨_, _, ⟨T4, L4, k4, n4⟩, -, X4, ⟨Lc4, hQ4, l4, y4, z4⟩, st4⟩ := Jvm.LawKit.callS X3 hx (y := (⟨"com/example/rbmc/rbmc/SmallSet", "mask", "(J)I"⟩ : MethodName)) hown (mvT hZ (hw _ (List.mem_of_getElem? (i := 10) rfl))) (mvT hZ (hw _ (List.mem_of_getElem? (i := 11) rfl))) (mvT hZ (hw _ (List.mem_of_getElem? (i := 2) rfl))) (mvT hZ (hw _ (List.mem_of_getElem? (i := 12) rfl))) (by decide) (backOf (W := 0) (rm_mask l Z a0 hw [] xs h0 n0 Z0) hZ (hw _ (List.mem_of_getElem? (i := 12) rfl)) (hw _ (List.mem_of_getElem? (i := 2) rfl)) (by decide) (by decide)) (g := (mkF m 32 #[.val (.long xs), .second, .val (.long xe), .second, .val (.long (offF xs xe)), .second] [(.long xs)])) rfl (by rw [hml]; rfl) (argsL := [(.long xs)]) (rest := []) (lenOf pd_0 rfl) rfl (by show 2 * 0 + _ ≤ _; exact Nat.le_of_eq rfl) (hb hby d_prog_53_method_6_32) (fun _ _ => ⟨rfl, e3, (by decide : 0 + 0 ≤ _), (by decide : 0 + 0 ≤ _)⟩)
        dsimp only [Pt.U, Pt.locs, Pt.cells, Pt.slots] at X4 l4 y4 z4 st4 hQ4
        subst l4 y4 z4
        obtain ⟨rfl, N4q, e4⟩ := hQ4
        have N4 := Fr.app N3 N4q
        obtain ⟨fs, hr, hrun, hended, hW, hsame⟩ := X4.leave (v := some (.int (conF xs xe))) (fun h => by rw [Bd.returns] at h; cases h)
        refine ⟨_, _, pre0 _ ?_, hrun, hended, _, _, rfl, ?_, ⟨_, rfl⟩, hW, hsame.mono (by decide) (by decide)⟩
        · show Steps p.tables e below (s₁.setTop (mkF m 0 #[.val (.long xs), .second, .val (.long xe), .second, .unset, .unset] [])) _
          refine XS.lloadN X0.here hx rfl (hb hby d_prog_53_method_6_0) rfl ?_
          show Steps p.tables e below (s₁.setTop (mkF m 1 #[.val (.long xs), .second, .val (.long xe), .second, .unset, .unset] [(.long xe)])) _
          refine XS.lloadN X0.here hx rfl (hb hby d_prog_53_method_6_1) rfl ?_
          show Steps p.tables e below (s₁.setTop (mkF m 2 #[.val (.long xs), .second, .val (.long xe), .second, .unset, .unset] [(.long xs), (.long xe)])) _
          refine st3 _ ?_
          show Steps p.tables e below (T3.setTop (mkF m 5 #[.val (.long xs), .second, .val (.long xe), .second, .unset, .unset] [(.int (leastF xs)), (.long xe)])) _
          refine XS.i2l X3.here hx rfl (hb hby d_prog_53_method_6_5) rfl ?_
          show Steps p.tables e below (T3.setTop (mkF m 6 #[.val (.long xs), .second, .val (.long xe), .second, .unset, .unset] [(.long ((leastF xs).toInt64)), (.long xe)])) _
          refine XS.lsub X3.here hx rfl (hb hby d_prog_53_method_6_6) rfl ?_
          show Steps p.tables e below (T3.setTop (mkF m 7 #[.val (.long xs), .second, .val (.long xe), .second, .unset, .unset] [(.long (offF xs xe))])) _
          refine XS.lstore X3.here hx rfl (hb hby d_prog_53_method_6_7) rfl (l' := #[.val (.long xs), .second, .val (.long xe), .second, .val (.long (offF xs xe)), .second]) rfl ?_
          show Steps p.tables e below (T3.setTop (mkF m 9 #[.val (.long xs), .second, .val (.long xe), .second, .val (.long (offF xs xe)), .second] [])) _
          refine XS.lloadN X3.here hx rfl (hb hby d_prog_53_method_6_9) rfl ?_
          show Steps p.tables e below (T3.setTop (mkF m 10 #[.val (.long xs), .second, .val (.long xe), .second, .val (.long (offF xs xe)), .second] [(.long xs)])) _
          refine XS.lconst X3.here hx rfl (hb hby d_prog_53_method_6_10) ?_
          show Steps p.tables e below (T3.setTop (mkF m 11 #[.val (.long xs), .second, .val (.long xe), .second, .val (.long (offF xs xe)), .second] [(.long (0 : Int64)), (.long xs)])) _
          refine XS.lcmp X3.here hx rfl (hb hby d_prog_53_method_6_11) rfl ?_
          show Steps p.tables e below (T3.setTop (mkF m 12 #[.val (.long xs), .second, .val (.long xe), .second, .val (.long (offF xs xe)), .second] [(.int (lcmpW xs (0 : Int64)))])) _
          refine XS.ifNo X3.here hx rfl (hb hby d_prog_53_method_6_12) rfl ((if0 _ _).trans (feq (fun q => hc12 ((lw_eq _ _).1 q))).1) ?_
          show Steps p.tables e below (T3.setTop (mkF m 15 #[.val (.long xs), .second, .val (.long xe), .second, .val (.long (offF xs xe)), .second] [])) _
          refine XS.lload X3.here hx rfl (hb hby d_prog_53_method_6_15) rfl ?_
          show Steps p.tables e below (T3.setTop (mkF m 17 #[.val (.long xs), .second, .val (.long xe), .second, .val (.long (offF xs xe)), .second] [(.long (offF xs xe))])) _
          refine XS.lconst X3.here hx rfl (hb hby d_prog_53_method_6_17) ?_
          show Steps p.tables e below (T3.setTop (mkF m 18 #[.val (.long xs), .second, .val (.long xe), .second, .val (.long (offF xs xe)), .second] [(.long (0 : Int64)), (.long (offF xs xe))])) _
          refine XS.lcmp X3.here hx rfl (hb hby d_prog_53_method_6_18) rfl ?_
          show Steps p.tables e below (T3.setTop (mkF m 19 #[.val (.long xs), .second, .val (.long xe), .second, .val (.long (offF xs xe)), .second] [(.int (lcmpW (offF xs xe) (0 : Int64)))])) _
          refine XS.ifNo X3.here hx rfl (hb hby d_prog_53_method_6_19) rfl ((if0 _ _).trans (flt (fun q => hc19 ((lw_lt _ _).1 q))).1) ?_
          show Steps p.tables e below (T3.setTop (mkF m 22 #[.val (.long xs), .second, .val (.long xe), .second, .val (.long (offF xs xe)), .second] [])) _
          refine XS.lload X3.here hx rfl (hb hby d_prog_53_method_6_22) rfl ?_
          show Steps p.tables e below (T3.setTop (mkF m 24 #[.val (.long xs), .second, .val (.long xe), .second, .val (.long (offF xs xe)), .second] [(.long (offF xs xe))])) _
          refine X3.ldc2Long hx hown (mvT hZ (hw _ (List.mem_of_getElem? (i := 9) rfl))) (g := (mkF m 24 #[.val (.long xs), .second, .val (.long xe), .second, .val (.long (offF xs xe)), .second] [(.long (offF xs xe))])) rfl (hb hby d_prog_53_method_6_24) _ ?_
          show Steps p.tables e below (T3.setTop (mkF m 27 #[.val (.long xs), .second, .val (.long xe), .second, .val (.long (offF xs xe)), .second] [(.long (32 : Int64)), (.long (offF xs xe))])) _
          refine XS.lcmp X3.here hx rfl (hb hby d_prog_53_method_6_27) rfl ?_
          show Steps p.tables e below (T3.setTop (mkF m 28 #[.val (.long xs), .second, .val (.long xe), .second, .val (.long (offF xs xe)), .second] [(.int (lcmpW (offF xs xe) (32 : Int64)))])) _
          refine XS.ifNo X3.here hx rfl (hb hby d_prog_53_method_6_28) rfl ((if0 _ _).trans (tlt ((lw_lt _ _).2 hc28)).2.1) ?_
          show Steps p.tables e below (T3.setTop (mkF m 31 #[.val (.long xs), .second, .val (.long xe), .second, .val (.long (offF xs xe)), .second] [])) _
          refine XS.lloadN X3.here hx rfl (hb hby d_prog_53_method_6_31) rfl ?_
          show Steps p.tables e below (T3.setTop (mkF m 32 #[.val (.long xs), .second, .val (.long xe), .second, .val (.long (offF xs xe)), .second] [(.long xs)])) _
          refine st4 _ ?_
          show Steps p.tables e below (T4.setTop (mkF m 35 #[.val (.long xs), .second, .val (.long xe), .second, .val (.long (offF xs xe)), .second] [(.int (maskF xs))])) _
          refine XS.lload X4.here hx rfl (hb hby d_prog_53_method_6_35) rfl ?_
          show Steps p.tables e below (T4.setTop (mkF m 37 #[.val (.long xs), .second, .val (.long xe), .second, .val (.long (offF xs xe)), .second] [(.long (offF xs xe)), (.int (maskF xs))])) _
          refine XS.l2i X4.here hx rfl (hb hby d_prog_53_method_6_37) rfl ?_
          show Steps p.tables e below (T4.setTop (mkF m 38 #[.val (.long xs), .second, .val (.long xe), .second, .val (.long (offF xs xe)), .second] [(.int ((offF xs xe).toInt32)), (.int (maskF xs))])) _
          refine XS.iushr X4.here hx rfl (hb hby d_prog_53_method_6_38) rfl ?_
          show Steps p.tables e below (T4.setTop (mkF m 39 #[.val (.long xs), .second, .val (.long xe), .second, .val (.long (offF xs xe)), .second] [(.int (((maskF xs).toUInt32 >>> (((offF xs xe).toInt32) &&& 31).toUInt32).toInt32))])) _
          refine XS.iconst X4.here hx rfl (hb hby d_prog_53_method_6_39) ?_
          show Steps p.tables e below (T4.setTop (mkF m 40 #[.val (.long xs), .second, .val (.long xe), .second, .val (.long (offF xs xe)), .second] [(.int (1 : Int32)), (.int (((maskF xs).toUInt32 >>> (((offF xs xe).toInt32) &&& 31).toUInt32).toInt32))])) _
          refine XS.iand X4.here hx rfl (hb hby d_prog_53_method_6_40) rfl ?_
          show Steps p.tables e below (T4.setTop (mkF m 41 #[.val (.long xs), .second, .val (.long xe), .second, .val (.long (offF xs xe)), .second] [(.int (bitF (maskF xs) (offF xs xe).toInt32))])) _
          refine XS.iconst X4.here hx rfl (hb hby d_prog_53_method_6_41) ?_
          show Steps p.tables e below (T4.setTop (mkF m 42 #[.val (.long xs), .second, .val (.long xe), .second, .val (.long (offF xs xe)), .second] [(.int (1 : Int32)), (.int (bitF (maskF xs) (offF xs xe).toInt32))])) _
          by_cases h42 : (bitF (maskF xs) (offF xs xe).toInt32) = (1 : Int32)
          · refine XS.icmpNo X4.here hx rfl (hb hby d_prog_53_method_6_42) rfl (teq h42).2 ?_
            show Steps p.tables e below (T4.setTop (mkF m 45 #[.val (.long xs), .second, .val (.long xe), .second, .val (.long (offF xs xe)), .second] [])) _
            refine XS.iconst X4.here hx rfl (hb hby d_prog_53_method_6_45) ?_
            show Steps p.tables e below (T4.setTop (mkF m 46 #[.val (.long xs), .second, .val (.long xe), .second, .val (.long (offF xs xe)), .second] [(.int (1 : Int32))])) _
            refine XS.goto X4.here hx rfl (pc0 := 46) (pc' := 50) rfl (hb hby d_prog_53_method_6_46) (by decide) (by decide) ?_
            show Steps p.tables e below (T4.setTop (mkF m 50 #[.val (.long xs), .second, .val (.long xe), .second, .val (.long (offF xs xe)), .second] [(.int (1 : Int32))])) _
            exact retN X4 hx (t := .boolean) Bd.returns (by simp) (hb hby d_prog_53_method_6_50) (by rw [show nar .boolean (1 : Int32) = (conF xs xe) from (own_nar1).trans (by simp only [conF, hc12, hc19, hc28, h42, eq_self, if_true, if_false])]; exact hr)
          · refine XS.icmpYes X4.here hx rfl (pc0 := 42) (pc' := 49) rfl (hb hby d_prog_53_method_6_42) rfl (feq h42).2 (by decide) (by decide) ?_
            show Steps p.tables e below (T4.setTop (mkF m 49 #[.val (.long xs), .second, .val (.long xe), .second, .val (.long (offF xs xe)), .second] [])) _
            refine XS.iconst X4.here hx rfl (hb hby d_prog_53_method_6_49) ?_
            show Steps p.tables e below (T4.setTop (mkF m 50 #[.val (.long xs), .second, .val (.long xe), .second, .val (.long (offF xs xe)), .second] [(.int (0 : Int32))])) _
            exact retN X4 hx (t := .boolean) Bd.returns (by simp) (hb hby d_prog_53_method_6_50) (by rw [show nar .boolean (0 : Int32) = (conF xs xe) from (own_nar0).trans (by simp only [conF, hc12, hc19, hc28, h42, eq_self, if_true, if_false])]; exact hr)
        · show Q_con Z xs xe h0 n0 _ T4.heap _
          exact ⟨rfl, N4, e4⟩
      · obtain ⟨_, _, ⟨T5, L5, k5, n5⟩, -, X5, ⟨Lc5, hQ5, l5, y5, z5⟩, st5⟩ := Jvm.LawKit.callS X0 hx (y := (⟨"com/example/rbmc/rbmc/SmallSet", "least", "(J)I"⟩ : MethodName)) hown (mvT hZ (hw _ (List.mem_of_getElem? (i := 4) rfl))) (mvT hZ (hw _ (List.mem_of_getElem? (i := 5) rfl))) (mvT hZ (hw _ (List.mem_of_getElem? (i := 2) rfl))) (mvT hZ (hw _ (List.mem_of_getElem? (i := 6) rfl))) (by decide) (backOf (W := 2) (rm_least l Z a0 hw [] xs h0 n0 Z0) hZ (hw _ (List.mem_of_getElem? (i := 6) rfl)) (hw _ (List.mem_of_getElem? (i := 2) rfl)) (by decide) (by decide)) (g := (mkF m 2 #[.val (.long xs), .second, .val (.long xe), .second, .unset, .unset] [(.long xs), (.long xe)])) rfl (by rw [hml]; rfl) (argsL := [(.long xs)]) (rest := [(.long xe)]) (lenOf pd_0 rfl) rfl (by show 2 * 0 + _ ≤ _; exact Nat.le_of_eq rfl) (hb hby d_prog_53_method_6_2) (fun _ _ => ⟨rfl, e0, (by decide : 0 + 0 ≤ _), (by decide : 0 + 0 ≤ _)⟩)
        dsimp only [Pt.U, Pt.locs, Pt.cells, Pt.slots] at X5 l5 y5 z5 st5 hQ5
        subst l5 y5 z5
        obtain ⟨rfl, N5q, e5⟩ := hQ5
        have N5 := Fr.app N0 N5q
        obtain ⟨fs, hr, hrun, hended, hW, hsame⟩ := X5.leave (v := some (.int (conF xs xe))) (fun h => by rw [Bd.returns] at h; cases h)
        refine ⟨_, _, pre0 _ ?_, hrun, hended, _, _, rfl, ?_, ⟨_, rfl⟩, hW, hsame.mono (by decide) (by decide)⟩
        · show Steps p.tables e below (s₁.setTop (mkF m 0 #[.val (.long xs), .second, .val (.long xe), .second, .unset, .unset] [])) _
          refine XS.lloadN X0.here hx rfl (hb hby d_prog_53_method_6_0) rfl ?_
          show Steps p.tables e below (s₁.setTop (mkF m 1 #[.val (.long xs), .second, .val (.long xe), .second, .unset, .unset] [(.long xe)])) _
          refine XS.lloadN X0.here hx rfl (hb hby d_prog_53_method_6_1) rfl ?_
          show Steps p.tables e below (s₁.setTop (mkF m 2 #[.val (.long xs), .second, .val (.long xe), .second, .unset, .unset] [(.long xs), (.long xe)])) _
          refine st5 _ ?_
          show Steps p.tables e below (T5.setTop (mkF m 5 #[.val (.long xs), .second, .val (.long xe), .second, .unset, .unset] [(.int (leastF xs)), (.long xe)])) _
          refine XS.i2l X5.here hx rfl (hb hby d_prog_53_method_6_5) rfl ?_
          show Steps p.tables e below (T5.setTop (mkF m 6 #[.val (.long xs), .second, .val (.long xe), .second, .unset, .unset] [(.long ((leastF xs).toInt64)), (.long xe)])) _
          refine XS.lsub X5.here hx rfl (hb hby d_prog_53_method_6_6) rfl ?_
          show Steps p.tables e below (T5.setTop (mkF m 7 #[.val (.long xs), .second, .val (.long xe), .second, .unset, .unset] [(.long (offF xs xe))])) _
          refine XS.lstore X5.here hx rfl (hb hby d_prog_53_method_6_7) rfl (l' := #[.val (.long xs), .second, .val (.long xe), .second, .val (.long (offF xs xe)), .second]) rfl ?_
          show Steps p.tables e below (T5.setTop (mkF m 9 #[.val (.long xs), .second, .val (.long xe), .second, .val (.long (offF xs xe)), .second] [])) _
          refine XS.lloadN X5.here hx rfl (hb hby d_prog_53_method_6_9) rfl ?_
          show Steps p.tables e below (T5.setTop (mkF m 10 #[.val (.long xs), .second, .val (.long xe), .second, .val (.long (offF xs xe)), .second] [(.long xs)])) _
          refine XS.lconst X5.here hx rfl (hb hby d_prog_53_method_6_10) ?_
          show Steps p.tables e below (T5.setTop (mkF m 11 #[.val (.long xs), .second, .val (.long xe), .second, .val (.long (offF xs xe)), .second] [(.long (0 : Int64)), (.long xs)])) _
          refine XS.lcmp X5.here hx rfl (hb hby d_prog_53_method_6_11) rfl ?_
          show Steps p.tables e below (T5.setTop (mkF m 12 #[.val (.long xs), .second, .val (.long xe), .second, .val (.long (offF xs xe)), .second] [(.int (lcmpW xs (0 : Int64)))])) _
          refine XS.ifNo X5.here hx rfl (hb hby d_prog_53_method_6_12) rfl ((if0 _ _).trans (feq (fun q => hc12 ((lw_eq _ _).1 q))).1) ?_
          show Steps p.tables e below (T5.setTop (mkF m 15 #[.val (.long xs), .second, .val (.long xe), .second, .val (.long (offF xs xe)), .second] [])) _
          refine XS.lload X5.here hx rfl (hb hby d_prog_53_method_6_15) rfl ?_
          show Steps p.tables e below (T5.setTop (mkF m 17 #[.val (.long xs), .second, .val (.long xe), .second, .val (.long (offF xs xe)), .second] [(.long (offF xs xe))])) _
          refine XS.lconst X5.here hx rfl (hb hby d_prog_53_method_6_17) ?_
          show Steps p.tables e below (T5.setTop (mkF m 18 #[.val (.long xs), .second, .val (.long xe), .second, .val (.long (offF xs xe)), .second] [(.long (0 : Int64)), (.long (offF xs xe))])) _
          refine XS.lcmp X5.here hx rfl (hb hby d_prog_53_method_6_18) rfl ?_
          show Steps p.tables e below (T5.setTop (mkF m 19 #[.val (.long xs), .second, .val (.long xe), .second, .val (.long (offF xs xe)), .second] [(.int (lcmpW (offF xs xe) (0 : Int64)))])) _
          refine XS.ifNo X5.here hx rfl (hb hby d_prog_53_method_6_19) rfl ((if0 _ _).trans (flt (fun q => hc19 ((lw_lt _ _).1 q))).1) ?_
          show Steps p.tables e below (T5.setTop (mkF m 22 #[.val (.long xs), .second, .val (.long xe), .second, .val (.long (offF xs xe)), .second] [])) _
          refine XS.lload X5.here hx rfl (hb hby d_prog_53_method_6_22) rfl ?_
          show Steps p.tables e below (T5.setTop (mkF m 24 #[.val (.long xs), .second, .val (.long xe), .second, .val (.long (offF xs xe)), .second] [(.long (offF xs xe))])) _
          refine X5.ldc2Long hx hown (mvT hZ (hw _ (List.mem_of_getElem? (i := 9) rfl))) (g := (mkF m 24 #[.val (.long xs), .second, .val (.long xe), .second, .val (.long (offF xs xe)), .second] [(.long (offF xs xe))])) rfl (hb hby d_prog_53_method_6_24) _ ?_
          show Steps p.tables e below (T5.setTop (mkF m 27 #[.val (.long xs), .second, .val (.long xe), .second, .val (.long (offF xs xe)), .second] [(.long (32 : Int64)), (.long (offF xs xe))])) _
          refine XS.lcmp X5.here hx rfl (hb hby d_prog_53_method_6_27) rfl ?_
          show Steps p.tables e below (T5.setTop (mkF m 28 #[.val (.long xs), .second, .val (.long xe), .second, .val (.long (offF xs xe)), .second] [(.int (lcmpW (offF xs xe) (32 : Int64)))])) _
          refine XS.ifYes X5.here hx rfl (pc0 := 28) (pc' := 49) rfl (hb hby d_prog_53_method_6_28) rfl ((if0 _ _).trans (flt (fun q => hc28 ((lw_lt _ _).1 q))).2.1) (by decide) (by decide) ?_
          show Steps p.tables e below (T5.setTop (mkF m 49 #[.val (.long xs), .second, .val (.long xe), .second, .val (.long (offF xs xe)), .second] [])) _
          refine XS.iconst X5.here hx rfl (hb hby d_prog_53_method_6_49) ?_
          show Steps p.tables e below (T5.setTop (mkF m 50 #[.val (.long xs), .second, .val (.long xe), .second, .val (.long (offF xs xe)), .second] [(.int (0 : Int32))])) _
          exact retN X5 hx (t := .boolean) Bd.returns (by simp) (hb hby d_prog_53_method_6_50) (by rw [show nar .boolean (0 : Int32) = (conF xs xe) from (own_nar0).trans (by simp only [conF, hc12, hc19, hc28, eq_self, if_true, if_false])]; exact hr)
        · show Q_con Z xs xe h0 n0 _ T5.heap _
          exact ⟨rfl, N5, e5⟩
theorem pn_1 : plainName "com/example/rbmc/rbmc/SmallSetContainsPinLaw" = true := by first | (simp [plainName, overriddenIn]; done) | decide +kernel
theorem pd_1 : parseMethodDescriptor "(JJ)Z" = some ⟨[.long, .long], some .boolean⟩ := by decide +kernel
theorem ef_law (m : MethodId) (xl : Int32) (xm : Int32) (xe : Int64) (xo : Int32) : entryFrame m #[(.int xl), (.int xm), (.long xe), (.int xo)] maxLocals = mkF m 0 #[.val (.int xl), .val (.int xm), .val (.long xe), .second, .val (.int xo), .unset, .unset, .unset, .unset, .unset, .unset, .unset, .unset, .unset] [] := by first | (simp [entryFrame, mkF, argsToLocals, Value.category, maxLocals]; done) | rfl
def Q_law (Z : State) (xl : Int32) (xm : Int32) (xe : Int64) (xo : Int32) (h0 : Heap) (n0 : Nat) (v : Option Value) (h : Heap) (L : List Loc) : Prop := v = some (.int (lawF xl xm xo xe)) ∧ Fr n0 L ∧ True
set_option maxRecDepth 65536 in
set_option maxHeartbeats 40000000 in
theorem rm_law (l : Launch) (Z : State) (a0 : Array Value) (hw : ∀ d ∈ tables_1, d.before a0 Z = true) (ws : List Jvm.Cond) (xl : Int32) (xm : Int32) (xe : Int64) (xo : Int32) (h0 : Heap) (n0 : Nat) (Z0 : n0 ≤ h0.size) :
    MetFree l x (head1 (Jvm.Cond.code x code maxLocals ret :: ws) room_1) (fun a U => a = #[(.int xl), (.int xm), (.long xe), (.int xo)] ∧ Z.Warmed39 U.vm ∧ U.heap = h0) (fun _ _ _ _ _ => True) (fun _ U o U' => ∃ v L, o = .returned v ∧ Q_law Z xl xm xe xo h0 n0 v U'.heap L ∧ FrameEnd U o U' L room_1.cells room_1.slots) := by
  refine MetFree.of_bodySF (plainFor_of_name pn_1) hisR ?_
  intro p e s m args below meth c s₁ Bd hml0 hP hK
  obtain ⟨rfl, hZ, hh⟩ := hP
  have hx := Bd.exec
  have hby := Bd.bytes
  have hml : c.maxLocals = 14 := hml0
  have hown : s.vm.findClass "com/example/rbmc/rbmc/SmallSetContainsPinLaw" = some m.cls := findClass_of_methodNamed Bd.named
  have X0 : Stand p l e room_1 s m #[(.int xl), (.int xm), (.long xe), (.int xo)] below meth c s₁ [] 0 0 := Stand.of_body Bd
  have e0 : s₁.heap = h0 := by rw [← hh, Bd.state]; rfl
  have N0 := Fr.nil n0
  have pre0 : ∀ t, Steps p.tables e below (s₁.setTop (mkF m 0 #[.val (.int xl), .val (.int xm), .val (.long xe), .second, .val (.int xo), .unset, .unset, .unset, .unset, .unset, .unset, .unset, .unset, .unset] [])) t → Steps p.tables e below (s₁.setTop (entryFrame m #[(.int xl), (.int xm), (.long xe), (.int xo)] maxLocals)) t := fun t k => castTop (ef_law m xl xm xe xo) k
  obtain ⟨_, _, ⟨T1, L1, k1, n1⟩, -, X1, ⟨Lc1, hQ1, l1, y1, z1⟩, st1⟩ := Jvm.LawKit.callS X0 hx (y := (⟨"com/example/rbmc/rbmc/SmallSet", "contains", "(JJ)Z"⟩ : MethodName)) hown (mvT hZ (hw _ (List.mem_of_getElem? (i := 0) rfl))) (mvT hZ (hw _ (List.mem_of_getElem? (i := 1) rfl))) (mvT hZ (hw _ (List.mem_of_getElem? (i := 2) rfl))) (mvT hZ (hw _ (List.mem_of_getElem? (i := 3) rfl))) (by decide) (backOf (W := 0) (rm_con l Z a0 hw [] (setF xl xm xo) (elF xl xo xe) h0 n0 Z0) hZ (hw _ (List.mem_of_getElem? (i := 3) rfl)) (hw _ (List.mem_of_getElem? (i := 2) rfl)) (by decide) (by decide)) (g := (mkF m 150 #[.val (.int xl), .val (.int xm), .val (.long xe), .second, .val (.int xo), .val (.int (emptyF xo)), .val (.int (nearF xo)), .val (.int (orF xm)), .val (.long (setF xl xm xo)), .second, .val (.long (elF xl xo xe)), .second, .val (.int (expF xl xm xo xe)), (s13F xl xo xe)] [(.long (elF xl xo xe)), (.long (setF xl xm xo))])) rfl (by rw [hml]; rfl) (argsL := [(.long (setF xl xm xo)), (.long (elF xl xo xe))]) (rest := []) (lenOf pd_1 rfl) rfl (by show 2 * 0 + _ ≤ _; exact Nat.le_of_eq rfl) (hb hby at_150) (fun _ _ => ⟨rfl, e0, (by decide : 0 + 0 ≤ _), (by decide : 0 + 0 ≤ _)⟩)
  dsimp only [Pt.U, Pt.locs, Pt.cells, Pt.slots] at X1 l1 y1 z1 st1 hQ1
  subst l1 y1 z1
  obtain ⟨rfl, N1q, e1⟩ := hQ1
  have N1 := Fr.app N0 N1q
  obtain ⟨fs, hr, hrun, hended, hW, hsame⟩ := X1.leave (v := some (.int (lawF xl xm xo xe))) (fun h => by rw [Bd.returns] at h; cases h)
  refine ⟨_, _, pre0 _ ?_, hrun, hended, _, _, rfl, ?_, ⟨_, rfl⟩, hW, hsame.mono (by decide) (by decide)⟩
  · show Steps p.tables e below (s₁.setTop (mkF m 0 #[.val (.int xl), .val (.int xm), .val (.long xe), .second, .val (.int xo), .unset, .unset, .unset, .unset, .unset, .unset, .unset, .unset, .unset] [])) _
    refine XS.iload X0.here hx rfl (hb hby at_0) rfl ?_
    show Steps p.tables e below (s₁.setTop (mkF m 2 #[.val (.int xl), .val (.int xm), .val (.long xe), .second, .val (.int xo), .unset, .unset, .unset, .unset, .unset, .unset, .unset, .unset, .unset] [(.int xo)])) _
    refine XS.bipush X0.here hx rfl (hb hby at_2) ?_
    show Steps p.tables e below (s₁.setTop (mkF m 4 #[.val (.int xl), .val (.int xm), .val (.long xe), .second, .val (.int xo), .unset, .unset, .unset, .unset, .unset, .unset, .unset, .unset, .unset] [(.int (7 : Int32)), (.int xo)])) _
    refine XS.iand X0.here hx rfl (hb hby at_4) rfl ?_
    show Steps p.tables e below (s₁.setTop (mkF m 5 #[.val (.int xl), .val (.int xm), .val (.long xe), .second, .val (.int xo), .unset, .unset, .unset, .unset, .unset, .unset, .unset, .unset, .unset] [(.int (xo &&& (7 : Int32)))])) _
    suffices J5 : Steps p.tables e below (s₁.setTop (mkF m 13 #[.val (.int xl), .val (.int xm), .val (.long xe), .second, .val (.int xo), .unset, .unset, .unset, .unset, .unset, .unset, .unset, .unset, .unset] [(.int (emptyF xo))])) (T1.setFrames fs) by
      by_cases h5 : (xo &&& (7 : Int32)) = (0 : Int32)
      · refine XS.ifNo X0.here hx rfl (hb hby at_5) rfl ((if0 _ _).trans (teq h5).2) ?_
        show Steps p.tables e below (s₁.setTop (mkF m 8 #[.val (.int xl), .val (.int xm), .val (.long xe), .second, .val (.int xo), .unset, .unset, .unset, .unset, .unset, .unset, .unset, .unset, .unset] [])) _
        refine XS.iconst X0.here hx rfl (hb hby at_8) ?_
        show Steps p.tables e below (s₁.setTop (mkF m 9 #[.val (.int xl), .val (.int xm), .val (.long xe), .second, .val (.int xo), .unset, .unset, .unset, .unset, .unset, .unset, .unset, .unset, .unset] [(.int (1 : Int32))])) _
        refine XS.goto X0.here hx rfl (pc0 := 9) (pc' := 13) rfl (hb hby at_9) (by decide) (by decide) ?_
        show Steps p.tables e below (s₁.setTop (mkF m 13 #[.val (.int xl), .val (.int xm), .val (.long xe), .second, .val (.int xo), .unset, .unset, .unset, .unset, .unset, .unset, .unset, .unset, .unset] [(.int (1 : Int32))])) _
        rw [show (emptyF xo) = (1 : Int32) from by simp only [emptyF, h5, eq_self, if_true, if_false]] at J5
        exact J5
      · refine XS.ifYes X0.here hx rfl (pc0 := 5) (pc' := 12) rfl (hb hby at_5) rfl ((if0 _ _).trans (feq h5).2) (by decide) (by decide) ?_
        show Steps p.tables e below (s₁.setTop (mkF m 12 #[.val (.int xl), .val (.int xm), .val (.long xe), .second, .val (.int xo), .unset, .unset, .unset, .unset, .unset, .unset, .unset, .unset, .unset] [])) _
        refine XS.iconst X0.here hx rfl (hb hby at_12) ?_
        show Steps p.tables e below (s₁.setTop (mkF m 13 #[.val (.int xl), .val (.int xm), .val (.long xe), .second, .val (.int xo), .unset, .unset, .unset, .unset, .unset, .unset, .unset, .unset, .unset] [(.int (0 : Int32))])) _
        rw [show (emptyF xo) = (0 : Int32) from by simp only [emptyF, h5, eq_self, if_true, if_false]] at J5
        exact J5
    show Steps p.tables e below (s₁.setTop (mkF m 13 #[.val (.int xl), .val (.int xm), .val (.long xe), .second, .val (.int xo), .unset, .unset, .unset, .unset, .unset, .unset, .unset, .unset, .unset] [(.int (emptyF xo))])) _
    refine XS.istore X0.here hx rfl (hb hby at_13) rfl (l' := #[.val (.int xl), .val (.int xm), .val (.long xe), .second, .val (.int xo), .val (.int (emptyF xo)), .unset, .unset, .unset, .unset, .unset, .unset, .unset, .unset]) rfl ?_
    show Steps p.tables e below (s₁.setTop (mkF m 15 #[.val (.int xl), .val (.int xm), .val (.long xe), .second, .val (.int xo), .val (.int (emptyF xo)), .unset, .unset, .unset, .unset, .unset, .unset, .unset, .unset] [])) _
    refine XS.iload X0.here hx rfl (hb hby at_15) rfl ?_
    show Steps p.tables e below (s₁.setTop (mkF m 17 #[.val (.int xl), .val (.int xm), .val (.long xe), .second, .val (.int xo), .val (.int (emptyF xo)), .unset, .unset, .unset, .unset, .unset, .unset, .unset, .unset] [(.int xo)])) _
    refine XS.bipush X0.here hx rfl (hb hby at_17) ?_
    show Steps p.tables e below (s₁.setTop (mkF m 19 #[.val (.int xl), .val (.int xm), .val (.long xe), .second, .val (.int xo), .val (.int (emptyF xo)), .unset, .unset, .unset, .unset, .unset, .unset, .unset, .unset] [(.int (8 : Int32)), (.int xo)])) _
    refine XS.iand X0.here hx rfl (hb hby at_19) rfl ?_
    show Steps p.tables e below (s₁.setTop (mkF m 20 #[.val (.int xl), .val (.int xm), .val (.long xe), .second, .val (.int xo), .val (.int (emptyF xo)), .unset, .unset, .unset, .unset, .unset, .unset, .unset, .unset] [(.int (xo &&& (8 : Int32)))])) _
    suffices J20 : Steps p.tables e below (s₁.setTop (mkF m 28 #[.val (.int xl), .val (.int xm), .val (.long xe), .second, .val (.int xo), .val (.int (emptyF xo)), .unset, .unset, .unset, .unset, .unset, .unset, .unset, .unset] [(.int (nearF xo))])) (T1.setFrames fs) by
      by_cases h20 : (xo &&& (8 : Int32)) = (0 : Int32)
      · refine XS.ifYes X0.here hx rfl (pc0 := 20) (pc' := 27) rfl (hb hby at_20) rfl ((if0 _ _).trans (teq h20).1) (by decide) (by decide) ?_
        show Steps p.tables e below (s₁.setTop (mkF m 27 #[.val (.int xl), .val (.int xm), .val (.long xe), .second, .val (.int xo), .val (.int (emptyF xo)), .unset, .unset, .unset, .unset, .unset, .unset, .unset, .unset] [])) _
        refine XS.iconst X0.here hx rfl (hb hby at_27) ?_
        show Steps p.tables e below (s₁.setTop (mkF m 28 #[.val (.int xl), .val (.int xm), .val (.long xe), .second, .val (.int xo), .val (.int (emptyF xo)), .unset, .unset, .unset, .unset, .unset, .unset, .unset, .unset] [(.int (0 : Int32))])) _
        rw [show (nearF xo) = (0 : Int32) from by simp only [nearF, h20, eq_self, if_true, if_false]] at J20
        exact J20
      · refine XS.ifNo X0.here hx rfl (hb hby at_20) rfl ((if0 _ _).trans (feq h20).1) ?_
        show Steps p.tables e below (s₁.setTop (mkF m 23 #[.val (.int xl), .val (.int xm), .val (.long xe), .second, .val (.int xo), .val (.int (emptyF xo)), .unset, .unset, .unset, .unset, .unset, .unset, .unset, .unset] [])) _
        refine XS.iconst X0.here hx rfl (hb hby at_23) ?_
        show Steps p.tables e below (s₁.setTop (mkF m 24 #[.val (.int xl), .val (.int xm), .val (.long xe), .second, .val (.int xo), .val (.int (emptyF xo)), .unset, .unset, .unset, .unset, .unset, .unset, .unset, .unset] [(.int (1 : Int32))])) _
        refine XS.goto X0.here hx rfl (pc0 := 24) (pc' := 28) rfl (hb hby at_24) (by decide) (by decide) ?_
        show Steps p.tables e below (s₁.setTop (mkF m 28 #[.val (.int xl), .val (.int xm), .val (.long xe), .second, .val (.int xo), .val (.int (emptyF xo)), .unset, .unset, .unset, .unset, .unset, .unset, .unset, .unset] [(.int (1 : Int32))])) _
        rw [show (nearF xo) = (1 : Int32) from by simp only [nearF, h20, eq_self, if_true, if_false]] at J20
        exact J20
    show Steps p.tables e below (s₁.setTop (mkF m 28 #[.val (.int xl), .val (.int xm), .val (.long xe), .second, .val (.int xo), .val (.int (emptyF xo)), .unset, .unset, .unset, .unset, .unset, .unset, .unset, .unset] [(.int (nearF xo))])) _
    refine XS.istore X0.here hx rfl (hb hby at_28) rfl (l' := #[.val (.int xl), .val (.int xm), .val (.long xe), .second, .val (.int xo), .val (.int (emptyF xo)), .val (.int (nearF xo)), .unset, .unset, .unset, .unset, .unset, .unset, .unset]) rfl ?_
    show Steps p.tables e below (s₁.setTop (mkF m 30 #[.val (.int xl), .val (.int xm), .val (.long xe), .second, .val (.int xo), .val (.int (emptyF xo)), .val (.int (nearF xo)), .unset, .unset, .unset, .unset, .unset, .unset, .unset] [])) _
    refine XS.iloadN X0.here hx rfl (hb hby at_30) rfl ?_
    show Steps p.tables e below (s₁.setTop (mkF m 31 #[.val (.int xl), .val (.int xm), .val (.long xe), .second, .val (.int xo), .val (.int (emptyF xo)), .val (.int (nearF xo)), .unset, .unset, .unset, .unset, .unset, .unset, .unset] [(.int xm)])) _
    refine XS.iconst X0.here hx rfl (hb hby at_31) ?_
    show Steps p.tables e below (s₁.setTop (mkF m 32 #[.val (.int xl), .val (.int xm), .val (.long xe), .second, .val (.int xo), .val (.int (emptyF xo)), .val (.int (nearF xo)), .unset, .unset, .unset, .unset, .unset, .unset, .unset] [(.int (1 : Int32)), (.int xm)])) _
    refine XS.ior X0.here hx rfl (hb hby at_32) rfl ?_
    show Steps p.tables e below (s₁.setTop (mkF m 33 #[.val (.int xl), .val (.int xm), .val (.long xe), .second, .val (.int xo), .val (.int (emptyF xo)), .val (.int (nearF xo)), .unset, .unset, .unset, .unset, .unset, .unset, .unset] [(.int (xm ||| (1 : Int32)))])) _
    refine XS.istore X0.here hx rfl (hb hby at_33) rfl (l' := #[.val (.int xl), .val (.int xm), .val (.long xe), .second, .val (.int xo), .val (.int (emptyF xo)), .val (.int (nearF xo)), .val (.int (orF xm)), .unset, .unset, .unset, .unset, .unset, .unset]) rfl ?_
    show Steps p.tables e below (s₁.setTop (mkF m 35 #[.val (.int xl), .val (.int xm), .val (.long xe), .second, .val (.int xo), .val (.int (emptyF xo)), .val (.int (nearF xo)), .val (.int (orF xm)), .unset, .unset, .unset, .unset, .unset, .unset] [])) _
    refine XS.iload X0.here hx rfl (hb hby at_35) rfl ?_
    show Steps p.tables e below (s₁.setTop (mkF m 37 #[.val (.int xl), .val (.int xm), .val (.long xe), .second, .val (.int xo), .val (.int (emptyF xo)), .val (.int (nearF xo)), .val (.int (orF xm)), .unset, .unset, .unset, .unset, .unset, .unset] [(.int (emptyF xo))])) _
    suffices J37 : Steps p.tables e below (s₁.setTop (mkF m 57 #[.val (.int xl), .val (.int xm), .val (.long xe), .second, .val (.int xo), .val (.int (emptyF xo)), .val (.int (nearF xo)), .val (.int (orF xm)), .unset, .unset, .unset, .unset, .unset, .unset] [(.long (setF xl xm xo))])) (T1.setFrames fs) by
      by_cases h37 : (emptyF xo) = (0 : Int32)
      · refine XS.ifYes X0.here hx rfl (pc0 := 37) (pc' := 44) rfl (hb hby at_37) rfl ((if0 _ _).trans (teq h37).1) (by decide) (by decide) ?_
        show Steps p.tables e below (s₁.setTop (mkF m 44 #[.val (.int xl), .val (.int xm), .val (.long xe), .second, .val (.int xo), .val (.int (emptyF xo)), .val (.int (nearF xo)), .val (.int (orF xm)), .unset, .unset, .unset, .unset, .unset, .unset] [])) _
        refine XS.iloadN X0.here hx rfl (hb hby at_44) rfl ?_
        show Steps p.tables e below (s₁.setTop (mkF m 45 #[.val (.int xl), .val (.int xm), .val (.long xe), .second, .val (.int xo), .val (.int (emptyF xo)), .val (.int (nearF xo)), .val (.int (orF xm)), .unset, .unset, .unset, .unset, .unset, .unset] [(.int xl)])) _
        refine XS.i2l X0.here hx rfl (hb hby at_45) rfl ?_
        show Steps p.tables e below (s₁.setTop (mkF m 46 #[.val (.int xl), .val (.int xm), .val (.long xe), .second, .val (.int xo), .val (.int (emptyF xo)), .val (.int (nearF xo)), .val (.int (orF xm)), .unset, .unset, .unset, .unset, .unset, .unset] [(.long (xl.toInt64))])) _
        refine XS.bipush X0.here hx rfl (hb hby at_46) ?_
        show Steps p.tables e below (s₁.setTop (mkF m 48 #[.val (.int xl), .val (.int xm), .val (.long xe), .second, .val (.int xo), .val (.int (emptyF xo)), .val (.int (nearF xo)), .val (.int (orF xm)), .unset, .unset, .unset, .unset, .unset, .unset] [(.int (32 : Int32)), (.long (xl.toInt64))])) _
        refine XS.lshl X0.here hx rfl (hb hby at_48) rfl ?_
        show Steps p.tables e below (s₁.setTop (mkF m 49 #[.val (.int xl), .val (.int xm), .val (.long xe), .second, .val (.int xo), .val (.int (emptyF xo)), .val (.int (nearF xo)), .val (.int (orF xm)), .unset, .unset, .unset, .unset, .unset, .unset] [(.long ((xl.toInt64) <<< ((32 : Int32) &&& 0x3f).toInt64))])) _
        refine XS.iload X0.here hx rfl (hb hby at_49) rfl ?_
        show Steps p.tables e below (s₁.setTop (mkF m 51 #[.val (.int xl), .val (.int xm), .val (.long xe), .second, .val (.int xo), .val (.int (emptyF xo)), .val (.int (nearF xo)), .val (.int (orF xm)), .unset, .unset, .unset, .unset, .unset, .unset] [(.int (orF xm)), (.long ((xl.toInt64) <<< ((32 : Int32) &&& 0x3f).toInt64))])) _
        refine XS.i2l X0.here hx rfl (hb hby at_51) rfl ?_
        show Steps p.tables e below (s₁.setTop (mkF m 52 #[.val (.int xl), .val (.int xm), .val (.long xe), .second, .val (.int xo), .val (.int (emptyF xo)), .val (.int (nearF xo)), .val (.int (orF xm)), .unset, .unset, .unset, .unset, .unset, .unset] [(.long ((orF xm).toInt64)), (.long ((xl.toInt64) <<< ((32 : Int32) &&& 0x3f).toInt64))])) _
        refine X0.ldc2Long hx hown (mvT hZ (hw _ (List.mem_of_getElem? (i := 7) rfl))) (g := (mkF m 52 #[.val (.int xl), .val (.int xm), .val (.long xe), .second, .val (.int xo), .val (.int (emptyF xo)), .val (.int (nearF xo)), .val (.int (orF xm)), .unset, .unset, .unset, .unset, .unset, .unset] [(.long ((orF xm).toInt64)), (.long ((xl.toInt64) <<< ((32 : Int32) &&& 0x3f).toInt64))])) rfl (hb hby at_52) _ ?_
        show Steps p.tables e below (s₁.setTop (mkF m 55 #[.val (.int xl), .val (.int xm), .val (.long xe), .second, .val (.int xo), .val (.int (emptyF xo)), .val (.int (nearF xo)), .val (.int (orF xm)), .unset, .unset, .unset, .unset, .unset, .unset] [(.long (4294967295 : Int64)), (.long ((orF xm).toInt64)), (.long ((xl.toInt64) <<< ((32 : Int32) &&& 0x3f).toInt64))])) _
        refine XS.land X0.here hx rfl (hb hby at_55) rfl ?_
        show Steps p.tables e below (s₁.setTop (mkF m 56 #[.val (.int xl), .val (.int xm), .val (.long xe), .second, .val (.int xo), .val (.int (emptyF xo)), .val (.int (nearF xo)), .val (.int (orF xm)), .unset, .unset, .unset, .unset, .unset, .unset] [(.long (((orF xm).toInt64) &&& (4294967295 : Int64))), (.long ((xl.toInt64) <<< ((32 : Int32) &&& 0x3f).toInt64))])) _
        refine XS.lor X0.here hx rfl (hb hby at_56) rfl ?_
        show Steps p.tables e below (s₁.setTop (mkF m 57 #[.val (.int xl), .val (.int xm), .val (.long xe), .second, .val (.int xo), .val (.int (emptyF xo)), .val (.int (nearF xo)), .val (.int (orF xm)), .unset, .unset, .unset, .unset, .unset, .unset] [(.long (((xl.toInt64) <<< ((32 : Int32) &&& 0x3f).toInt64) ||| (((orF xm).toInt64) &&& (4294967295 : Int64))))])) _
        rw [show (setF xl xm xo) = (((xl.toInt64) <<< ((32 : Int32) &&& 0x3f).toInt64) ||| (((orF xm).toInt64) &&& (4294967295 : Int64))) from by simp only [setF, h37, eq_self, if_true, if_false]] at J37
        exact J37
      · refine XS.ifNo X0.here hx rfl (hb hby at_37) rfl ((if0 _ _).trans (feq h37).1) ?_
        show Steps p.tables e below (s₁.setTop (mkF m 40 #[.val (.int xl), .val (.int xm), .val (.long xe), .second, .val (.int xo), .val (.int (emptyF xo)), .val (.int (nearF xo)), .val (.int (orF xm)), .unset, .unset, .unset, .unset, .unset, .unset] [])) _
        refine XS.lconst X0.here hx rfl (hb hby at_40) ?_
        show Steps p.tables e below (s₁.setTop (mkF m 41 #[.val (.int xl), .val (.int xm), .val (.long xe), .second, .val (.int xo), .val (.int (emptyF xo)), .val (.int (nearF xo)), .val (.int (orF xm)), .unset, .unset, .unset, .unset, .unset, .unset] [(.long (0 : Int64))])) _
        refine XS.goto X0.here hx rfl (pc0 := 41) (pc' := 57) rfl (hb hby at_41) (by decide) (by decide) ?_
        show Steps p.tables e below (s₁.setTop (mkF m 57 #[.val (.int xl), .val (.int xm), .val (.long xe), .second, .val (.int xo), .val (.int (emptyF xo)), .val (.int (nearF xo)), .val (.int (orF xm)), .unset, .unset, .unset, .unset, .unset, .unset] [(.long (0 : Int64))])) _
        rw [show (setF xl xm xo) = (0 : Int64) from by simp only [setF, h37, eq_self, if_true, if_false]] at J37
        exact J37
    show Steps p.tables e below (s₁.setTop (mkF m 57 #[.val (.int xl), .val (.int xm), .val (.long xe), .second, .val (.int xo), .val (.int (emptyF xo)), .val (.int (nearF xo)), .val (.int (orF xm)), .unset, .unset, .unset, .unset, .unset, .unset] [(.long (setF xl xm xo))])) _
    refine XS.lstore X0.here hx rfl (hb hby at_57) rfl (l' := #[.val (.int xl), .val (.int xm), .val (.long xe), .second, .val (.int xo), .val (.int (emptyF xo)), .val (.int (nearF xo)), .val (.int (orF xm)), .val (.long (setF xl xm xo)), .second, .unset, .unset, .unset, .unset]) rfl ?_
    show Steps p.tables e below (s₁.setTop (mkF m 59 #[.val (.int xl), .val (.int xm), .val (.long xe), .second, .val (.int xo), .val (.int (emptyF xo)), .val (.int (nearF xo)), .val (.int (orF xm)), .val (.long (setF xl xm xo)), .second, .unset, .unset, .unset, .unset] [])) _
    refine XS.iload X0.here hx rfl (hb hby at_59) rfl ?_
    show Steps p.tables e below (s₁.setTop (mkF m 61 #[.val (.int xl), .val (.int xm), .val (.long xe), .second, .val (.int xo), .val (.int (emptyF xo)), .val (.int (nearF xo)), .val (.int (orF xm)), .val (.long (setF xl xm xo)), .second, .unset, .unset, .unset, .unset] [(.int (nearF xo))])) _
    suffices J61 : Steps p.tables e below (s₁.setTop (mkF m 76 #[.val (.int xl), .val (.int xm), .val (.long xe), .second, .val (.int xo), .val (.int (emptyF xo)), .val (.int (nearF xo)), .val (.int (orF xm)), .val (.long (setF xl xm xo)), .second, .unset, .unset, .unset, .unset] [(.long (elF xl xo xe))])) (T1.setFrames fs) by
      by_cases h61 : (nearF xo) = (0 : Int32)
      · refine XS.ifYes X0.here hx rfl (pc0 := 61) (pc' := 75) rfl (hb hby at_61) rfl ((if0 _ _).trans (teq h61).1) (by decide) (by decide) ?_
        show Steps p.tables e below (s₁.setTop (mkF m 75 #[.val (.int xl), .val (.int xm), .val (.long xe), .second, .val (.int xo), .val (.int (emptyF xo)), .val (.int (nearF xo)), .val (.int (orF xm)), .val (.long (setF xl xm xo)), .second, .unset, .unset, .unset, .unset] [])) _
        refine XS.lloadN X0.here hx rfl (hb hby at_75) rfl ?_
        show Steps p.tables e below (s₁.setTop (mkF m 76 #[.val (.int xl), .val (.int xm), .val (.long xe), .second, .val (.int xo), .val (.int (emptyF xo)), .val (.int (nearF xo)), .val (.int (orF xm)), .val (.long (setF xl xm xo)), .second, .unset, .unset, .unset, .unset] [(.long xe)])) _
        rw [show (elF xl xo xe) = xe from by simp only [elF, h61, eq_self, if_true, if_false]] at J61
        exact J61
      · refine XS.ifNo X0.here hx rfl (hb hby at_61) rfl ((if0 _ _).trans (feq h61).1) ?_
        show Steps p.tables e below (s₁.setTop (mkF m 64 #[.val (.int xl), .val (.int xm), .val (.long xe), .second, .val (.int xo), .val (.int (emptyF xo)), .val (.int (nearF xo)), .val (.int (orF xm)), .val (.long (setF xl xm xo)), .second, .unset, .unset, .unset, .unset] [])) _
        refine XS.iloadN X0.here hx rfl (hb hby at_64) rfl ?_
        show Steps p.tables e below (s₁.setTop (mkF m 65 #[.val (.int xl), .val (.int xm), .val (.long xe), .second, .val (.int xo), .val (.int (emptyF xo)), .val (.int (nearF xo)), .val (.int (orF xm)), .val (.long (setF xl xm xo)), .second, .unset, .unset, .unset, .unset] [(.int xl)])) _
        refine XS.i2l X0.here hx rfl (hb hby at_65) rfl ?_
        show Steps p.tables e below (s₁.setTop (mkF m 66 #[.val (.int xl), .val (.int xm), .val (.long xe), .second, .val (.int xo), .val (.int (emptyF xo)), .val (.int (nearF xo)), .val (.int (orF xm)), .val (.long (setF xl xm xo)), .second, .unset, .unset, .unset, .unset] [(.long (xl.toInt64))])) _
        refine XS.lloadN X0.here hx rfl (hb hby at_66) rfl ?_
        show Steps p.tables e below (s₁.setTop (mkF m 67 #[.val (.int xl), .val (.int xm), .val (.long xe), .second, .val (.int xo), .val (.int (emptyF xo)), .val (.int (nearF xo)), .val (.int (orF xm)), .val (.long (setF xl xm xo)), .second, .unset, .unset, .unset, .unset] [(.long xe), (.long (xl.toInt64))])) _
        refine X0.ldc2Long hx hown (mvT hZ (hw _ (List.mem_of_getElem? (i := 13) rfl))) (g := (mkF m 67 #[.val (.int xl), .val (.int xm), .val (.long xe), .second, .val (.int xo), .val (.int (emptyF xo)), .val (.int (nearF xo)), .val (.int (orF xm)), .val (.long (setF xl xm xo)), .second, .unset, .unset, .unset, .unset] [(.long xe), (.long (xl.toInt64))])) rfl (hb hby at_67) _ ?_
        show Steps p.tables e below (s₁.setTop (mkF m 70 #[.val (.int xl), .val (.int xm), .val (.long xe), .second, .val (.int xo), .val (.int (emptyF xo)), .val (.int (nearF xo)), .val (.int (orF xm)), .val (.long (setF xl xm xo)), .second, .unset, .unset, .unset, .unset] [(.long (48 : Int64)), (.long xe), (.long (xl.toInt64))])) _
        refine XS.lrem X0.here hx rfl (hb hby at_70) rfl (by decide) ?_
        show Steps p.tables e below (s₁.setTop (mkF m 71 #[.val (.int xl), .val (.int xm), .val (.long xe), .second, .val (.int xo), .val (.int (emptyF xo)), .val (.int (nearF xo)), .val (.int (orF xm)), .val (.long (setF xl xm xo)), .second, .unset, .unset, .unset, .unset] [(.long (xe - (xe / (48 : Int64)) * (48 : Int64))), (.long (xl.toInt64))])) _
        refine XS.ladd X0.here hx rfl (hb hby at_71) rfl ?_
        show Steps p.tables e below (s₁.setTop (mkF m 72 #[.val (.int xl), .val (.int xm), .val (.long xe), .second, .val (.int xo), .val (.int (emptyF xo)), .val (.int (nearF xo)), .val (.int (orF xm)), .val (.long (setF xl xm xo)), .second, .unset, .unset, .unset, .unset] [(.long ((xl.toInt64) + (xe - (xe / (48 : Int64)) * (48 : Int64))))])) _
        refine XS.goto X0.here hx rfl (pc0 := 72) (pc' := 76) rfl (hb hby at_72) (by decide) (by decide) ?_
        show Steps p.tables e below (s₁.setTop (mkF m 76 #[.val (.int xl), .val (.int xm), .val (.long xe), .second, .val (.int xo), .val (.int (emptyF xo)), .val (.int (nearF xo)), .val (.int (orF xm)), .val (.long (setF xl xm xo)), .second, .unset, .unset, .unset, .unset] [(.long ((xl.toInt64) + (xe - (xe / (48 : Int64)) * (48 : Int64))))])) _
        rw [show (elF xl xo xe) = ((xl.toInt64) + (xe - (xe / (48 : Int64)) * (48 : Int64))) from by simp only [elF, h61, eq_self, if_true, if_false]] at J61
        exact J61
    show Steps p.tables e below (s₁.setTop (mkF m 76 #[.val (.int xl), .val (.int xm), .val (.long xe), .second, .val (.int xo), .val (.int (emptyF xo)), .val (.int (nearF xo)), .val (.int (orF xm)), .val (.long (setF xl xm xo)), .second, .unset, .unset, .unset, .unset] [(.long (elF xl xo xe))])) _
    refine XS.lstore X0.here hx rfl (hb hby at_76) rfl (l' := #[.val (.int xl), .val (.int xm), .val (.long xe), .second, .val (.int xo), .val (.int (emptyF xo)), .val (.int (nearF xo)), .val (.int (orF xm)), .val (.long (setF xl xm xo)), .second, .val (.long (elF xl xo xe)), .second, .unset, .unset]) rfl ?_
    show Steps p.tables e below (s₁.setTop (mkF m 78 #[.val (.int xl), .val (.int xm), .val (.long xe), .second, .val (.int xo), .val (.int (emptyF xo)), .val (.int (nearF xo)), .val (.int (orF xm)), .val (.long (setF xl xm xo)), .second, .val (.long (elF xl xo xe)), .second, .unset, .unset] [])) _
    refine XS.iload X0.here hx rfl (hb hby at_78) rfl ?_
    show Steps p.tables e below (s₁.setTop (mkF m 80 #[.val (.int xl), .val (.int xm), .val (.long xe), .second, .val (.int xo), .val (.int (emptyF xo)), .val (.int (nearF xo)), .val (.int (orF xm)), .val (.long (setF xl xm xo)), .second, .val (.long (elF xl xo xe)), .second, .unset, .unset] [(.int (emptyF xo))])) _
    suffices J80 : Steps p.tables e below (s₁.setTop (mkF m 146 #[.val (.int xl), .val (.int xm), .val (.long xe), .second, .val (.int xo), .val (.int (emptyF xo)), .val (.int (nearF xo)), .val (.int (orF xm)), .val (.long (setF xl xm xo)), .second, .val (.long (elF xl xo xe)), .second, .val (.int (expF xl xm xo xe)), (s13F xl xo xe)] [])) (T1.setFrames fs) by
      by_cases h80 : (emptyF xo) = (0 : Int32)
      · refine XS.ifYes X0.here hx rfl (pc0 := 80) (pc' := 89) rfl (hb hby at_80) rfl ((if0 _ _).trans (teq h80).1) (by decide) (by decide) ?_
        show Steps p.tables e below (s₁.setTop (mkF m 89 #[.val (.int xl), .val (.int xm), .val (.long xe), .second, .val (.int xo), .val (.int (emptyF xo)), .val (.int (nearF xo)), .val (.int (orF xm)), .val (.long (setF xl xm xo)), .second, .val (.long (elF xl xo xe)), .second, .unset, .unset] [])) _
        refine XS.lload X0.here hx rfl (hb hby at_89) rfl ?_
        show Steps p.tables e below (s₁.setTop (mkF m 91 #[.val (.int xl), .val (.int xm), .val (.long xe), .second, .val (.int xo), .val (.int (emptyF xo)), .val (.int (nearF xo)), .val (.int (orF xm)), .val (.long (setF xl xm xo)), .second, .val (.long (elF xl xo xe)), .second, .unset, .unset] [(.long (elF xl xo xe))])) _
        refine XS.iloadN X0.here hx rfl (hb hby at_91) rfl ?_
        show Steps p.tables e below (s₁.setTop (mkF m 92 #[.val (.int xl), .val (.int xm), .val (.long xe), .second, .val (.int xo), .val (.int (emptyF xo)), .val (.int (nearF xo)), .val (.int (orF xm)), .val (.long (setF xl xm xo)), .second, .val (.long (elF xl xo xe)), .second, .unset, .unset] [(.int xl), (.long (elF xl xo xe))])) _
        refine XS.i2l X0.here hx rfl (hb hby at_92) rfl ?_
        show Steps p.tables e below (s₁.setTop (mkF m 93 #[.val (.int xl), .val (.int xm), .val (.long xe), .second, .val (.int xo), .val (.int (emptyF xo)), .val (.int (nearF xo)), .val (.int (orF xm)), .val (.long (setF xl xm xo)), .second, .val (.long (elF xl xo xe)), .second, .unset, .unset] [(.long (xl.toInt64)), (.long (elF xl xo xe))])) _
        refine XS.lcmp X0.here hx rfl (hb hby at_93) rfl ?_
        show Steps p.tables e below (s₁.setTop (mkF m 94 #[.val (.int xl), .val (.int xm), .val (.long xe), .second, .val (.int xo), .val (.int (emptyF xo)), .val (.int (nearF xo)), .val (.int (orF xm)), .val (.long (setF xl xm xo)), .second, .val (.long (elF xl xo xe)), .second, .unset, .unset] [(.int (lcmpW (elF xl xo xe) (xl.toInt64)))])) _
        by_cases h94 : (elF xl xo xe) < (xl.toInt64)
        · refine XS.ifNo X0.here hx rfl (hb hby at_94) rfl ((if0 _ _).trans (tlt ((lw_lt _ _).2 h94)).2.1) ?_
          show Steps p.tables e below (s₁.setTop (mkF m 97 #[.val (.int xl), .val (.int xm), .val (.long xe), .second, .val (.int xo), .val (.int (emptyF xo)), .val (.int (nearF xo)), .val (.int (orF xm)), .val (.long (setF xl xm xo)), .second, .val (.long (elF xl xo xe)), .second, .unset, .unset] [])) _
          refine XS.iconst X0.here hx rfl (hb hby at_97) ?_
          show Steps p.tables e below (s₁.setTop (mkF m 98 #[.val (.int xl), .val (.int xm), .val (.long xe), .second, .val (.int xo), .val (.int (emptyF xo)), .val (.int (nearF xo)), .val (.int (orF xm)), .val (.long (setF xl xm xo)), .second, .val (.long (elF xl xo xe)), .second, .unset, .unset] [(.int (0 : Int32))])) _
          refine XS.istore X0.here hx rfl (hb hby at_98) rfl (l' := #[.val (.int xl), .val (.int xm), .val (.long xe), .second, .val (.int xo), .val (.int (emptyF xo)), .val (.int (nearF xo)), .val (.int (orF xm)), .val (.long (setF xl xm xo)), .second, .val (.long (elF xl xo xe)), .second, .val (.int (0 : Int32)), .unset]) rfl ?_
          show Steps p.tables e below (s₁.setTop (mkF m 100 #[.val (.int xl), .val (.int xm), .val (.long xe), .second, .val (.int xo), .val (.int (emptyF xo)), .val (.int (nearF xo)), .val (.int (orF xm)), .val (.long (setF xl xm xo)), .second, .val (.long (elF xl xo xe)), .second, .val (.int (0 : Int32)), .unset] [])) _
          refine XS.goto X0.here hx rfl (pc0 := 100) (pc' := 146) rfl (hb hby at_100) (by decide) (by decide) ?_
          show Steps p.tables e below (s₁.setTop (mkF m 146 #[.val (.int xl), .val (.int xm), .val (.long xe), .second, .val (.int xo), .val (.int (emptyF xo)), .val (.int (nearF xo)), .val (.int (orF xm)), .val (.long (setF xl xm xo)), .second, .val (.long (elF xl xo xe)), .second, .val (.int (0 : Int32)), .unset] [])) _
          rw [show (expF xl xm xo xe) = (0 : Int32) from by simp only [expF, s13F, h80, h94, eq_self, if_true, if_false]] at J80
          rw [show (s13F xl xo xe) = .unset from by simp only [expF, s13F, h80, h94, eq_self, if_true, if_false]] at J80
          exact J80
        · refine XS.ifYes X0.here hx rfl (pc0 := 94) (pc' := 103) rfl (hb hby at_94) rfl ((if0 _ _).trans (flt (fun q => h94 ((lw_lt _ _).1 q))).2.1) (by decide) (by decide) ?_
          show Steps p.tables e below (s₁.setTop (mkF m 103 #[.val (.int xl), .val (.int xm), .val (.long xe), .second, .val (.int xo), .val (.int (emptyF xo)), .val (.int (nearF xo)), .val (.int (orF xm)), .val (.long (setF xl xm xo)), .second, .val (.long (elF xl xo xe)), .second, .unset, .unset] [])) _
          refine XS.lload X0.here hx rfl (hb hby at_103) rfl ?_
          show Steps p.tables e below (s₁.setTop (mkF m 105 #[.val (.int xl), .val (.int xm), .val (.long xe), .second, .val (.int xo), .val (.int (emptyF xo)), .val (.int (nearF xo)), .val (.int (orF xm)), .val (.long (setF xl xm xo)), .second, .val (.long (elF xl xo xe)), .second, .unset, .unset] [(.long (elF xl xo xe))])) _
          refine XS.iloadN X0.here hx rfl (hb hby at_105) rfl ?_
          show Steps p.tables e below (s₁.setTop (mkF m 106 #[.val (.int xl), .val (.int xm), .val (.long xe), .second, .val (.int xo), .val (.int (emptyF xo)), .val (.int (nearF xo)), .val (.int (orF xm)), .val (.long (setF xl xm xo)), .second, .val (.long (elF xl xo xe)), .second, .unset, .unset] [(.int xl), (.long (elF xl xo xe))])) _
          refine XS.i2l X0.here hx rfl (hb hby at_106) rfl ?_
          show Steps p.tables e below (s₁.setTop (mkF m 107 #[.val (.int xl), .val (.int xm), .val (.long xe), .second, .val (.int xo), .val (.int (emptyF xo)), .val (.int (nearF xo)), .val (.int (orF xm)), .val (.long (setF xl xm xo)), .second, .val (.long (elF xl xo xe)), .second, .unset, .unset] [(.long (xl.toInt64)), (.long (elF xl xo xe))])) _
          refine X0.ldc2Long hx hown (mvT hZ (hw _ (List.mem_of_getElem? (i := 8) rfl))) (g := (mkF m 107 #[.val (.int xl), .val (.int xm), .val (.long xe), .second, .val (.int xo), .val (.int (emptyF xo)), .val (.int (nearF xo)), .val (.int (orF xm)), .val (.long (setF xl xm xo)), .second, .val (.long (elF xl xo xe)), .second, .unset, .unset] [(.long (xl.toInt64)), (.long (elF xl xo xe))])) rfl (hb hby at_107) _ ?_
          show Steps p.tables e below (s₁.setTop (mkF m 110 #[.val (.int xl), .val (.int xm), .val (.long xe), .second, .val (.int xo), .val (.int (emptyF xo)), .val (.int (nearF xo)), .val (.int (orF xm)), .val (.long (setF xl xm xo)), .second, .val (.long (elF xl xo xe)), .second, .unset, .unset] [(.long (31 : Int64)), (.long (xl.toInt64)), (.long (elF xl xo xe))])) _
          refine XS.ladd X0.here hx rfl (hb hby at_110) rfl ?_
          show Steps p.tables e below (s₁.setTop (mkF m 111 #[.val (.int xl), .val (.int xm), .val (.long xe), .second, .val (.int xo), .val (.int (emptyF xo)), .val (.int (nearF xo)), .val (.int (orF xm)), .val (.long (setF xl xm xo)), .second, .val (.long (elF xl xo xe)), .second, .unset, .unset] [(.long ((xl.toInt64) + (31 : Int64))), (.long (elF xl xo xe))])) _
          refine XS.lcmp X0.here hx rfl (hb hby at_111) rfl ?_
          show Steps p.tables e below (s₁.setTop (mkF m 112 #[.val (.int xl), .val (.int xm), .val (.long xe), .second, .val (.int xo), .val (.int (emptyF xo)), .val (.int (nearF xo)), .val (.int (orF xm)), .val (.long (setF xl xm xo)), .second, .val (.long (elF xl xo xe)), .second, .unset, .unset] [(.int (lcmpW (elF xl xo xe) ((xl.toInt64) + (31 : Int64))))])) _
          by_cases h112 : ((xl.toInt64) + (31 : Int64)) < (elF xl xo xe)
          · refine XS.ifNo X0.here hx rfl (hb hby at_112) rfl ((if0 _ _).trans (tlt ((lw_gt _ _).2 h112)).2.2.2) ?_
            show Steps p.tables e below (s₁.setTop (mkF m 115 #[.val (.int xl), .val (.int xm), .val (.long xe), .second, .val (.int xo), .val (.int (emptyF xo)), .val (.int (nearF xo)), .val (.int (orF xm)), .val (.long (setF xl xm xo)), .second, .val (.long (elF xl xo xe)), .second, .unset, .unset] [])) _
            refine XS.iconst X0.here hx rfl (hb hby at_115) ?_
            show Steps p.tables e below (s₁.setTop (mkF m 116 #[.val (.int xl), .val (.int xm), .val (.long xe), .second, .val (.int xo), .val (.int (emptyF xo)), .val (.int (nearF xo)), .val (.int (orF xm)), .val (.long (setF xl xm xo)), .second, .val (.long (elF xl xo xe)), .second, .unset, .unset] [(.int (0 : Int32))])) _
            refine XS.istore X0.here hx rfl (hb hby at_116) rfl (l' := #[.val (.int xl), .val (.int xm), .val (.long xe), .second, .val (.int xo), .val (.int (emptyF xo)), .val (.int (nearF xo)), .val (.int (orF xm)), .val (.long (setF xl xm xo)), .second, .val (.long (elF xl xo xe)), .second, .val (.int (0 : Int32)), .unset]) rfl ?_
            show Steps p.tables e below (s₁.setTop (mkF m 118 #[.val (.int xl), .val (.int xm), .val (.long xe), .second, .val (.int xo), .val (.int (emptyF xo)), .val (.int (nearF xo)), .val (.int (orF xm)), .val (.long (setF xl xm xo)), .second, .val (.long (elF xl xo xe)), .second, .val (.int (0 : Int32)), .unset] [])) _
            refine XS.goto X0.here hx rfl (pc0 := 118) (pc' := 146) rfl (hb hby at_118) (by decide) (by decide) ?_
            show Steps p.tables e below (s₁.setTop (mkF m 146 #[.val (.int xl), .val (.int xm), .val (.long xe), .second, .val (.int xo), .val (.int (emptyF xo)), .val (.int (nearF xo)), .val (.int (orF xm)), .val (.long (setF xl xm xo)), .second, .val (.long (elF xl xo xe)), .second, .val (.int (0 : Int32)), .unset] [])) _
            rw [show (expF xl xm xo xe) = (0 : Int32) from by simp only [expF, s13F, h80, h94, h112, eq_self, if_true, if_false]] at J80
            rw [show (s13F xl xo xe) = .unset from by simp only [expF, s13F, h80, h94, h112, eq_self, if_true, if_false]] at J80
            exact J80
          · refine XS.ifYes X0.here hx rfl (pc0 := 112) (pc' := 121) rfl (hb hby at_112) rfl ((if0 _ _).trans (flt (fun q => h112 ((lw_gt _ _).1 q))).2.2.2) (by decide) (by decide) ?_
            show Steps p.tables e below (s₁.setTop (mkF m 121 #[.val (.int xl), .val (.int xm), .val (.long xe), .second, .val (.int xo), .val (.int (emptyF xo)), .val (.int (nearF xo)), .val (.int (orF xm)), .val (.long (setF xl xm xo)), .second, .val (.long (elF xl xo xe)), .second, .unset, .unset] [])) _
            refine XS.lload X0.here hx rfl (hb hby at_121) rfl ?_
            show Steps p.tables e below (s₁.setTop (mkF m 123 #[.val (.int xl), .val (.int xm), .val (.long xe), .second, .val (.int xo), .val (.int (emptyF xo)), .val (.int (nearF xo)), .val (.int (orF xm)), .val (.long (setF xl xm xo)), .second, .val (.long (elF xl xo xe)), .second, .unset, .unset] [(.long (elF xl xo xe))])) _
            refine XS.iloadN X0.here hx rfl (hb hby at_123) rfl ?_
            show Steps p.tables e below (s₁.setTop (mkF m 124 #[.val (.int xl), .val (.int xm), .val (.long xe), .second, .val (.int xo), .val (.int (emptyF xo)), .val (.int (nearF xo)), .val (.int (orF xm)), .val (.long (setF xl xm xo)), .second, .val (.long (elF xl xo xe)), .second, .unset, .unset] [(.int xl), (.long (elF xl xo xe))])) _
            refine XS.i2l X0.here hx rfl (hb hby at_124) rfl ?_
            show Steps p.tables e below (s₁.setTop (mkF m 125 #[.val (.int xl), .val (.int xm), .val (.long xe), .second, .val (.int xo), .val (.int (emptyF xo)), .val (.int (nearF xo)), .val (.int (orF xm)), .val (.long (setF xl xm xo)), .second, .val (.long (elF xl xo xe)), .second, .unset, .unset] [(.long (xl.toInt64)), (.long (elF xl xo xe))])) _
            refine XS.lsub X0.here hx rfl (hb hby at_125) rfl ?_
            show Steps p.tables e below (s₁.setTop (mkF m 126 #[.val (.int xl), .val (.int xm), .val (.long xe), .second, .val (.int xo), .val (.int (emptyF xo)), .val (.int (nearF xo)), .val (.int (orF xm)), .val (.long (setF xl xm xo)), .second, .val (.long (elF xl xo xe)), .second, .unset, .unset] [(.long ((elF xl xo xe) - (xl.toInt64)))])) _
            refine XS.l2i X0.here hx rfl (hb hby at_126) rfl ?_
            show Steps p.tables e below (s₁.setTop (mkF m 127 #[.val (.int xl), .val (.int xm), .val (.long xe), .second, .val (.int xo), .val (.int (emptyF xo)), .val (.int (nearF xo)), .val (.int (orF xm)), .val (.long (setF xl xm xo)), .second, .val (.long (elF xl xo xe)), .second, .unset, .unset] [(.int (((elF xl xo xe) - (xl.toInt64)).toInt32))])) _
            refine XS.istore X0.here hx rfl (hb hby at_127) rfl (l' := #[.val (.int xl), .val (.int xm), .val (.long xe), .second, .val (.int xo), .val (.int (emptyF xo)), .val (.int (nearF xo)), .val (.int (orF xm)), .val (.long (setF xl xm xo)), .second, .val (.long (elF xl xo xe)), .second, .unset, .val (.int (ixF xl xo xe))]) rfl ?_
            show Steps p.tables e below (s₁.setTop (mkF m 129 #[.val (.int xl), .val (.int xm), .val (.long xe), .second, .val (.int xo), .val (.int (emptyF xo)), .val (.int (nearF xo)), .val (.int (orF xm)), .val (.long (setF xl xm xo)), .second, .val (.long (elF xl xo xe)), .second, .unset, .val (.int (ixF xl xo xe))] [])) _
            refine XS.iload X0.here hx rfl (hb hby at_129) rfl ?_
            show Steps p.tables e below (s₁.setTop (mkF m 131 #[.val (.int xl), .val (.int xm), .val (.long xe), .second, .val (.int xo), .val (.int (emptyF xo)), .val (.int (nearF xo)), .val (.int (orF xm)), .val (.long (setF xl xm xo)), .second, .val (.long (elF xl xo xe)), .second, .unset, .val (.int (ixF xl xo xe))] [(.int (orF xm))])) _
            refine XS.iload X0.here hx rfl (hb hby at_131) rfl ?_
            show Steps p.tables e below (s₁.setTop (mkF m 133 #[.val (.int xl), .val (.int xm), .val (.long xe), .second, .val (.int xo), .val (.int (emptyF xo)), .val (.int (nearF xo)), .val (.int (orF xm)), .val (.long (setF xl xm xo)), .second, .val (.long (elF xl xo xe)), .second, .unset, .val (.int (ixF xl xo xe))] [(.int (ixF xl xo xe)), (.int (orF xm))])) _
            refine XS.iushr X0.here hx rfl (hb hby at_133) rfl ?_
            show Steps p.tables e below (s₁.setTop (mkF m 134 #[.val (.int xl), .val (.int xm), .val (.long xe), .second, .val (.int xo), .val (.int (emptyF xo)), .val (.int (nearF xo)), .val (.int (orF xm)), .val (.long (setF xl xm xo)), .second, .val (.long (elF xl xo xe)), .second, .unset, .val (.int (ixF xl xo xe))] [(.int (((orF xm).toUInt32 >>> ((ixF xl xo xe) &&& 31).toUInt32).toInt32))])) _
            refine XS.iconst X0.here hx rfl (hb hby at_134) ?_
            show Steps p.tables e below (s₁.setTop (mkF m 135 #[.val (.int xl), .val (.int xm), .val (.long xe), .second, .val (.int xo), .val (.int (emptyF xo)), .val (.int (nearF xo)), .val (.int (orF xm)), .val (.long (setF xl xm xo)), .second, .val (.long (elF xl xo xe)), .second, .unset, .val (.int (ixF xl xo xe))] [(.int (1 : Int32)), (.int (((orF xm).toUInt32 >>> ((ixF xl xo xe) &&& 31).toUInt32).toInt32))])) _
            refine XS.iand X0.here hx rfl (hb hby at_135) rfl ?_
            show Steps p.tables e below (s₁.setTop (mkF m 136 #[.val (.int xl), .val (.int xm), .val (.long xe), .second, .val (.int xo), .val (.int (emptyF xo)), .val (.int (nearF xo)), .val (.int (orF xm)), .val (.long (setF xl xm xo)), .second, .val (.long (elF xl xo xe)), .second, .unset, .val (.int (ixF xl xo xe))] [(.int (bitF (orF xm) (ixF xl xo xe)))])) _
            by_cases h136 : (bitF (orF xm) (ixF xl xo xe)) = (0 : Int32)
            · refine XS.ifYes X0.here hx rfl (pc0 := 136) (pc' := 143) rfl (hb hby at_136) rfl ((if0 _ _).trans (teq h136).1) (by decide) (by decide) ?_
              show Steps p.tables e below (s₁.setTop (mkF m 143 #[.val (.int xl), .val (.int xm), .val (.long xe), .second, .val (.int xo), .val (.int (emptyF xo)), .val (.int (nearF xo)), .val (.int (orF xm)), .val (.long (setF xl xm xo)), .second, .val (.long (elF xl xo xe)), .second, .unset, .val (.int (ixF xl xo xe))] [])) _
              refine XS.iconst X0.here hx rfl (hb hby at_143) ?_
              show Steps p.tables e below (s₁.setTop (mkF m 144 #[.val (.int xl), .val (.int xm), .val (.long xe), .second, .val (.int xo), .val (.int (emptyF xo)), .val (.int (nearF xo)), .val (.int (orF xm)), .val (.long (setF xl xm xo)), .second, .val (.long (elF xl xo xe)), .second, .unset, .val (.int (ixF xl xo xe))] [(.int (0 : Int32))])) _
              refine XS.istore X0.here hx rfl (hb hby at_144) rfl (l' := #[.val (.int xl), .val (.int xm), .val (.long xe), .second, .val (.int xo), .val (.int (emptyF xo)), .val (.int (nearF xo)), .val (.int (orF xm)), .val (.long (setF xl xm xo)), .second, .val (.long (elF xl xo xe)), .second, .val (.int (0 : Int32)), .val (.int (ixF xl xo xe))]) rfl ?_
              show Steps p.tables e below (s₁.setTop (mkF m 146 #[.val (.int xl), .val (.int xm), .val (.long xe), .second, .val (.int xo), .val (.int (emptyF xo)), .val (.int (nearF xo)), .val (.int (orF xm)), .val (.long (setF xl xm xo)), .second, .val (.long (elF xl xo xe)), .second, .val (.int (0 : Int32)), .val (.int (ixF xl xo xe))] [])) _
              rw [show (expF xl xm xo xe) = (0 : Int32) from by simp only [expF, s13F, h80, h94, h112, h136, eq_self, if_true, if_false]] at J80
              rw [show (s13F xl xo xe) = .val (.int (ixF xl xo xe)) from by simp only [expF, s13F, h80, h94, h112, h136, eq_self, if_true, if_false]] at J80
              exact J80
            · refine XS.ifNo X0.here hx rfl (hb hby at_136) rfl ((if0 _ _).trans (feq h136).1) ?_
              show Steps p.tables e below (s₁.setTop (mkF m 139 #[.val (.int xl), .val (.int xm), .val (.long xe), .second, .val (.int xo), .val (.int (emptyF xo)), .val (.int (nearF xo)), .val (.int (orF xm)), .val (.long (setF xl xm xo)), .second, .val (.long (elF xl xo xe)), .second, .unset, .val (.int (ixF xl xo xe))] [])) _
              refine XS.iconst X0.here hx rfl (hb hby at_139) ?_
              show Steps p.tables e below (s₁.setTop (mkF m 140 #[.val (.int xl), .val (.int xm), .val (.long xe), .second, .val (.int xo), .val (.int (emptyF xo)), .val (.int (nearF xo)), .val (.int (orF xm)), .val (.long (setF xl xm xo)), .second, .val (.long (elF xl xo xe)), .second, .unset, .val (.int (ixF xl xo xe))] [(.int (1 : Int32))])) _
              refine XS.goto X0.here hx rfl (pc0 := 140) (pc' := 144) rfl (hb hby at_140) (by decide) (by decide) ?_
              show Steps p.tables e below (s₁.setTop (mkF m 144 #[.val (.int xl), .val (.int xm), .val (.long xe), .second, .val (.int xo), .val (.int (emptyF xo)), .val (.int (nearF xo)), .val (.int (orF xm)), .val (.long (setF xl xm xo)), .second, .val (.long (elF xl xo xe)), .second, .unset, .val (.int (ixF xl xo xe))] [(.int (1 : Int32))])) _
              refine XS.istore X0.here hx rfl (hb hby at_144) rfl (l' := #[.val (.int xl), .val (.int xm), .val (.long xe), .second, .val (.int xo), .val (.int (emptyF xo)), .val (.int (nearF xo)), .val (.int (orF xm)), .val (.long (setF xl xm xo)), .second, .val (.long (elF xl xo xe)), .second, .val (.int (1 : Int32)), .val (.int (ixF xl xo xe))]) rfl ?_
              show Steps p.tables e below (s₁.setTop (mkF m 146 #[.val (.int xl), .val (.int xm), .val (.long xe), .second, .val (.int xo), .val (.int (emptyF xo)), .val (.int (nearF xo)), .val (.int (orF xm)), .val (.long (setF xl xm xo)), .second, .val (.long (elF xl xo xe)), .second, .val (.int (1 : Int32)), .val (.int (ixF xl xo xe))] [])) _
              rw [show (expF xl xm xo xe) = (1 : Int32) from by simp only [expF, s13F, h80, h94, h112, h136, eq_self, if_true, if_false]] at J80
              rw [show (s13F xl xo xe) = .val (.int (ixF xl xo xe)) from by simp only [expF, s13F, h80, h94, h112, h136, eq_self, if_true, if_false]] at J80
              exact J80
      · refine XS.ifNo X0.here hx rfl (hb hby at_80) rfl ((if0 _ _).trans (feq h80).1) ?_
        show Steps p.tables e below (s₁.setTop (mkF m 83 #[.val (.int xl), .val (.int xm), .val (.long xe), .second, .val (.int xo), .val (.int (emptyF xo)), .val (.int (nearF xo)), .val (.int (orF xm)), .val (.long (setF xl xm xo)), .second, .val (.long (elF xl xo xe)), .second, .unset, .unset] [])) _
        refine XS.iconst X0.here hx rfl (hb hby at_83) ?_
        show Steps p.tables e below (s₁.setTop (mkF m 84 #[.val (.int xl), .val (.int xm), .val (.long xe), .second, .val (.int xo), .val (.int (emptyF xo)), .val (.int (nearF xo)), .val (.int (orF xm)), .val (.long (setF xl xm xo)), .second, .val (.long (elF xl xo xe)), .second, .unset, .unset] [(.int (0 : Int32))])) _
        refine XS.istore X0.here hx rfl (hb hby at_84) rfl (l' := #[.val (.int xl), .val (.int xm), .val (.long xe), .second, .val (.int xo), .val (.int (emptyF xo)), .val (.int (nearF xo)), .val (.int (orF xm)), .val (.long (setF xl xm xo)), .second, .val (.long (elF xl xo xe)), .second, .val (.int (0 : Int32)), .unset]) rfl ?_
        show Steps p.tables e below (s₁.setTop (mkF m 86 #[.val (.int xl), .val (.int xm), .val (.long xe), .second, .val (.int xo), .val (.int (emptyF xo)), .val (.int (nearF xo)), .val (.int (orF xm)), .val (.long (setF xl xm xo)), .second, .val (.long (elF xl xo xe)), .second, .val (.int (0 : Int32)), .unset] [])) _
        refine XS.goto X0.here hx rfl (pc0 := 86) (pc' := 146) rfl (hb hby at_86) (by decide) (by decide) ?_
        show Steps p.tables e below (s₁.setTop (mkF m 146 #[.val (.int xl), .val (.int xm), .val (.long xe), .second, .val (.int xo), .val (.int (emptyF xo)), .val (.int (nearF xo)), .val (.int (orF xm)), .val (.long (setF xl xm xo)), .second, .val (.long (elF xl xo xe)), .second, .val (.int (0 : Int32)), .unset] [])) _
        rw [show (expF xl xm xo xe) = (0 : Int32) from by simp only [expF, s13F, h80, eq_self, if_true, if_false]] at J80
        rw [show (s13F xl xo xe) = .unset from by simp only [expF, s13F, h80, eq_self, if_true, if_false]] at J80
        exact J80
    show Steps p.tables e below (s₁.setTop (mkF m 146 #[.val (.int xl), .val (.int xm), .val (.long xe), .second, .val (.int xo), .val (.int (emptyF xo)), .val (.int (nearF xo)), .val (.int (orF xm)), .val (.long (setF xl xm xo)), .second, .val (.long (elF xl xo xe)), .second, .val (.int (expF xl xm xo xe)), (s13F xl xo xe)] [])) _
    refine XS.lload X0.here hx rfl (hb hby at_146) rfl ?_
    show Steps p.tables e below (s₁.setTop (mkF m 148 #[.val (.int xl), .val (.int xm), .val (.long xe), .second, .val (.int xo), .val (.int (emptyF xo)), .val (.int (nearF xo)), .val (.int (orF xm)), .val (.long (setF xl xm xo)), .second, .val (.long (elF xl xo xe)), .second, .val (.int (expF xl xm xo xe)), (s13F xl xo xe)] [(.long (setF xl xm xo))])) _
    refine XS.lload X0.here hx rfl (hb hby at_148) rfl ?_
    show Steps p.tables e below (s₁.setTop (mkF m 150 #[.val (.int xl), .val (.int xm), .val (.long xe), .second, .val (.int xo), .val (.int (emptyF xo)), .val (.int (nearF xo)), .val (.int (orF xm)), .val (.long (setF xl xm xo)), .second, .val (.long (elF xl xo xe)), .second, .val (.int (expF xl xm xo xe)), (s13F xl xo xe)] [(.long (elF xl xo xe)), (.long (setF xl xm xo))])) _
    refine st1 _ ?_
    show Steps p.tables e below (T1.setTop (mkF m 153 #[.val (.int xl), .val (.int xm), .val (.long xe), .second, .val (.int xo), .val (.int (emptyF xo)), .val (.int (nearF xo)), .val (.int (orF xm)), .val (.long (setF xl xm xo)), .second, .val (.long (elF xl xo xe)), .second, .val (.int (expF xl xm xo xe)), (s13F xl xo xe)] [(.int (conF (setF xl xm xo) (elF xl xo xe)))])) _
    refine XS.iload X1.here hx rfl (hb hby at_153) rfl ?_
    show Steps p.tables e below (T1.setTop (mkF m 155 #[.val (.int xl), .val (.int xm), .val (.long xe), .second, .val (.int xo), .val (.int (emptyF xo)), .val (.int (nearF xo)), .val (.int (orF xm)), .val (.long (setF xl xm xo)), .second, .val (.long (elF xl xo xe)), .second, .val (.int (expF xl xm xo xe)), (s13F xl xo xe)] [(.int (expF xl xm xo xe)), (.int (conF (setF xl xm xo) (elF xl xo xe)))])) _
    by_cases h155 : (conF (setF xl xm xo) (elF xl xo xe)) = (expF xl xm xo xe)
    · refine XS.icmpNo X1.here hx rfl (hb hby at_155) rfl (teq h155).2 ?_
      show Steps p.tables e below (T1.setTop (mkF m 158 #[.val (.int xl), .val (.int xm), .val (.long xe), .second, .val (.int xo), .val (.int (emptyF xo)), .val (.int (nearF xo)), .val (.int (orF xm)), .val (.long (setF xl xm xo)), .second, .val (.long (elF xl xo xe)), .second, .val (.int (expF xl xm xo xe)), (s13F xl xo xe)] [])) _
      refine XS.iconst X1.here hx rfl (hb hby at_158) ?_
      show Steps p.tables e below (T1.setTop (mkF m 159 #[.val (.int xl), .val (.int xm), .val (.long xe), .second, .val (.int xo), .val (.int (emptyF xo)), .val (.int (nearF xo)), .val (.int (orF xm)), .val (.long (setF xl xm xo)), .second, .val (.long (elF xl xo xe)), .second, .val (.int (expF xl xm xo xe)), (s13F xl xo xe)] [(.int (1 : Int32))])) _
      refine XS.goto X1.here hx rfl (pc0 := 159) (pc' := 163) rfl (hb hby at_159) (by decide) (by decide) ?_
      show Steps p.tables e below (T1.setTop (mkF m 163 #[.val (.int xl), .val (.int xm), .val (.long xe), .second, .val (.int xo), .val (.int (emptyF xo)), .val (.int (nearF xo)), .val (.int (orF xm)), .val (.long (setF xl xm xo)), .second, .val (.long (elF xl xo xe)), .second, .val (.int (expF xl xm xo xe)), (s13F xl xo xe)] [(.int (1 : Int32))])) _
      exact retN X1 hx (t := .boolean) Bd.returns (by simp) (hb hby at_163) (by rw [show nar .boolean (1 : Int32) = (lawF xl xm xo xe) from (own_nar1).trans (by simp only [lawF, h155, eq_self, if_true, if_false])]; exact hr)
    · refine XS.icmpYes X1.here hx rfl (pc0 := 155) (pc' := 162) rfl (hb hby at_155) rfl (feq h155).2 (by decide) (by decide) ?_
      show Steps p.tables e below (T1.setTop (mkF m 162 #[.val (.int xl), .val (.int xm), .val (.long xe), .second, .val (.int xo), .val (.int (emptyF xo)), .val (.int (nearF xo)), .val (.int (orF xm)), .val (.long (setF xl xm xo)), .second, .val (.long (elF xl xo xe)), .second, .val (.int (expF xl xm xo xe)), (s13F xl xo xe)] [])) _
      refine XS.iconst X1.here hx rfl (hb hby at_162) ?_
      show Steps p.tables e below (T1.setTop (mkF m 163 #[.val (.int xl), .val (.int xm), .val (.long xe), .second, .val (.int xo), .val (.int (emptyF xo)), .val (.int (nearF xo)), .val (.int (orF xm)), .val (.long (setF xl xm xo)), .second, .val (.long (elF xl xo xe)), .second, .val (.int (expF xl xm xo xe)), (s13F xl xo xe)] [(.int (0 : Int32))])) _
      exact retN X1 hx (t := .boolean) Bd.returns (by simp) (hb hby at_163) (by rw [show nar .boolean (0 : Int32) = (lawF xl xm xo xe) from (own_nar0).trans (by simp only [lawF, h155, eq_self, if_true, if_false])]; exact hr)
  · show Q_law Z xl xm xe xo h0 n0 _ T1.heap _
    exact ⟨rfl, N1, trivial⟩
set_option maxRecDepth 65536 in
set_option maxHeartbeats 40000000 in
theorem comes_1 {Post : Tables → Env → Array Value → State → Outcome → State → Prop} (hpost : ∀ tb e args s v u, (limb_1_1.after args s (.returned v) u = true ∧ limb_1_2.after args s (.returned v) u = true ∧ True) → FrameEnd s (.returned v) u (Jvm.fieldLocs frame_1_writes args s ++ Jvm.arrayLocs frame_1_arrays args s ++ Jvm.staticLocs frame_1_statics s) 0 0 → Post tb e args s (.returned v) u) :
    ArmFor flags0 classFile x code maxLocals ret World_1 tables_1 room_1 Calls_1 rest_1 Pre_1 Post := by
  intro l hfl _ _ p e ha hc hk s m args below hf hA hF happ hP
  obtain ⟨hcalls, hrest, hpre⟩ := hP
  obtain ⟨-, -, -, hnamed, -, -, -, hat⟩ := (Spec.applies_iff hf).mp happ
  obtain ⟨hg, hn⟩ := and_e (Cond.before_iff.mp (show (Jvm.Cond.and given_1 narrow_1).before args s = true from hpre))
  obtain ⟨gc, g0⟩ := and_e hg
  obtain ⟨k0, g1⟩ := and_e g0
  obtain ⟨k1, g2⟩ := and_e g1
  obtain ⟨k2, g3⟩ := and_e g2
  have k3 := g3
  obtain ⟨w0, w1, w2, w3, rfl⟩ : ∃ w0 w1 w2 w3 : Value, args = #[w0, w1, w2, w3] := by
    have hs : args.size = 4 := by simpa [Cond.value, given_1] using gc
    obtain ⟨L⟩ := args
    match L, hs with
    | [w0, w1, w2, w3], _ => exact ⟨w0, w1, w2, w3, rfl⟩
  have hw := fun d (hd : d ∈ tables_1) => atoms_spec (ws := Jvm.Cond.code x code maxLocals ret :: tables_1) hat d (List.mem_cons_of_mem _ hd)
  obtain ⟨i0, ei0⟩ := is_v k0
  obtain rfl : w0 = (.int i0) := Option.some.inj ei0
  obtain ⟨i1, ei1⟩ := is_v k1
  obtain rfl : w1 = (.int i1) := Option.some.inj ei1
  obtain ⟨i2, ei2⟩ := isL_v k2
  obtain rfl : w2 = (.long i2) := Option.some.inj ei2
  obtain ⟨i3, ei3⟩ := is_v k3
  obtain rfl : w3 = (.int i3) := Option.some.inj ei3
  obtain ⟨n, o, h1, h2, h3, v, L, rfl, hQ, hq⟩ := rm_law l s _ hw tables_1 i0 i1 i2 i3 s.heap s.heap.size (Nat.le_refl _)  p e ha hc hk s m _ below hf ((Spec.applies_iff_loose hf).mp happ).1 ⟨rfl, State.Warmed39.refl s, rfl⟩ trivial
  have hv : v = some (.int 1) := hQ.1.trans (by rw [lawF_one])
  subst hv
  have N := hQ.2.1
  refine ⟨n, _, h1, h2, h3, hpost _ _ _ _ _ _ ⟨Cond.after_iff.mpr rfl, Cond.after_iff.mpr (eq_i res_at (Term.int_eval (1)) rfl), trivial⟩ ⟨hq.1, hq.2.1, (hq.2.2.sift fun y hy => Or.inr (N y hy)).mono (by decide) (by decide)⟩⟩
theorem main_1_1 : Claimed_1_1 := comes_1 fun _ _ _ _ _ _ h hF => ⟨h.1, hF⟩
theorem main_1_2 : Claimed_1_2 := comes_1 fun _ _ _ _ _ _ h hF => ⟨h.2.1, hF⟩
end Jvm.Pilot.@@N@@
namespace Jvm.Pilot.@@N@@
open Jvm Jvm.ClassFile Sem Op Lib Jvm.Free Jvm.Stand Jvm.Pilot.@@N@@.Jvm.D
/-! MADE BY PROGRAM (witnessworld.py) out of the Statement's table words and the real class files: 9 classes; the members and pool entries that the words name. The judged class is class 1, her method 1. -/
namespace start1
open Jvm.ClassFile
def u (s : String) : CpInfo := .utf8 (stringToUtf16 s)
/-- a pool by its gaps: so many unusable entries, then the entry; so many at the end -/
def gap : Nat → List CpInfo → List CpInfo
  | 0, r => r
  | n + 1, r => .unusable :: gap n r
def poolList (es : List (Nat × CpInfo)) (last : Nat) : List CpInfo := es.foldr (fun e r => gap e.1 (e.2 :: r)) (gap last [])
def pool (es : List (Nat × CpInfo)) (last : Nat) : Array CpInfo := ⟨poolList es last⟩
def fileOf (pool : Array CpInfo) (this : Nat) (attrs : Array Attribute := #[]) (ms : Array MethodInfo := #[]) (fl : Nat := 33) (sup : Nat := 0) (ifs : Array Nat := #[]) (fds : Array FieldInfo := #[]) : ClassFile where
  minorVersion := 0
  majorVersion := 65
  constantPool := pool
  accessFlags := fl
  thisClass := this
  superClass := sup
  interfaces := ifs
  fields := fds
  methods := ms
  attributes := attrs
def plain (name : String) (sup : Option ClassId) : Class where
  name := name
  kind := .ordinary
  loader := none
  accessFlags := 33
  super := sup
  interfaces := #[]
  cf := none
  fields := #[]
  methods := #[]
  instanceTypes := #[]
  staticTypes := #[]
  resolved := #[]
  callSites := []
  init := .initialized
  statics := none
  mirror := none

def pool0 : Array CpInfo := pool [(5, u "<init>"), (0, u "()V"), (1, .class_ 10), (1, u "java/lang/Object")] 113

def k0m0 : Method := { name := "<init>", desc := "()V", sig := { parameters := [], returnType := none }, accessFlags := 1, code := none }
/-- java/lang/Object -/
def k0 : Class := { plain "java/lang/Object" none with
  accessFlags := 33
  interfaces := #[]
  cf := some (fileOf pool0 8 #[] #[{ accessFlags := 1, nameIndex := 5, descriptorIndex := 6, attributes := #[] }] 33 0 #[] #[])
  fields := #[]
  methods := #[k0m0]
  instanceTypes := #[]
  staticTypes := #[]
  resolved := Array.replicate 124 none
  statics := none }

def pool1 : Array CpInfo := pool [(2, .class_ 4), (1, u "java/lang/Object"), (0, u "<init>"), (0, u "()V"), (0, .long 4294967295), (1, .long 48), (1, .long 31), (1, .methodref 14 15), (0, .class_ 16), (0, .nameAndType 17 18), (0, u "com/example/rbmc/rbmc/SmallSet"), (0, u "contains"), (0, u "(JJ)Z"), (0, .class_ 20), (0, u "com/example/rbmc/rbmc/SmallSetContainsPinLaw"), (2, u "law"), (0, u "(IIJI)Z")] 3

def k1m0 : Method := { name := "<init>", desc := "()V", sig := { parameters := [], returnType := none }, accessFlags := 2, code := none }
def k1c1 : Code := { maxStack := 6, maxLocals := 14, code := code, exceptionTable := #[], attributes := #[] }
def k1m1 : Method := { name := "law", desc := "(IIJI)Z", sig := { parameters := [.int, .int, .long, .int], returnType := some .boolean }, accessFlags := 9, code := some k1c1 }
/-- com/example/rbmc/rbmc/SmallSetContainsPinLaw -/
def k1 : Class := { plain "com/example/rbmc/rbmc/SmallSetContainsPinLaw" (some 0) with
  accessFlags := 49
  interfaces := #[]
  cf := some (fileOf pool1 19 #[] #[{ accessFlags := 2, nameIndex := 5, descriptorIndex := 6, attributes := #[] }, { accessFlags := 9, nameIndex := 23, descriptorIndex := 24, attributes := #[] }] 49 2 #[] #[])
  fields := #[]
  methods := #[k1m0, k1m1]
  instanceTypes := #[]
  staticTypes := #[]
  resolved := Array.replicate 28 none
  statics := none }

def pool2 : Array CpInfo := pool [(2, .class_ 4), (1, u "java/lang/Object"), (0, u "<init>"), (0, u "()V"), (1, .class_ 10), (1, u "com/example/rbmc/rbmc/SmallSet"), (6, .methodref 8 18), (0, .nameAndType 19 20), (0, u "least"), (0, u "(J)I"), (12, .methodref 8 34), (0, .nameAndType 35 20), (0, u "mask"), (2, .long 32), (62, u "SPAN"), (0, u "I"), (2, u "EMPTY"), (0, u "J"), (15, u "contains"), (0, u "(JJ)Z")] 24

def k2m0 : Method := { name := "<init>", desc := "()V", sig := { parameters := [], returnType := none }, accessFlags := 2, code := none }
def k2c1 : Code := { maxStack := 4, maxLocals := 6, code := prog_53_method_6_code, exceptionTable := #[], attributes := #[] }
def k2m1 : Method := { name := "contains", desc := "(JJ)Z", sig := { parameters := [.long, .long], returnType := some .boolean }, accessFlags := 8, code := some k2c1 }
def k2c2 : Code := { maxStack := 3, maxLocals := 2, code := prog_53_method_11_code, exceptionTable := #[], attributes := #[] }
def k2m2 : Method := { name := "least", desc := "(J)I", sig := { parameters := [.long], returnType := some .int }, accessFlags := 8, code := some k2c2 }
def k2c3 : Code := { maxStack := 2, maxLocals := 2, code := prog_53_method_14_code, exceptionTable := #[], attributes := #[] }
def k2m3 : Method := { name := "mask", desc := "(J)I", sig := { parameters := [.long], returnType := some .int }, accessFlags := 10, code := some k2c3 }
/-- com/example/rbmc/rbmc/SmallSet -/
def k2 : Class := { plain "com/example/rbmc/rbmc/SmallSet" (some 0) with
  accessFlags := 32
  interfaces := #[]
  cf := some (fileOf pool2 8 #[] #[{ accessFlags := 2, nameIndex := 5, descriptorIndex := 6, attributes := #[] }, { accessFlags := 8, nameIndex := 122, descriptorIndex := 123, attributes := #[] }, { accessFlags := 8, nameIndex := 19, descriptorIndex := 20, attributes := #[] }, { accessFlags := 10, nameIndex := 35, descriptorIndex := 20, attributes := #[] }] 32 2 #[] #[{ accessFlags := 24, nameIndex := 101, descriptorIndex := 102, attributes := #[] }, { accessFlags := 24, nameIndex := 105, descriptorIndex := 106, attributes := #[] }])
  fields := #[{ name := "SPAN", type := .int, accessFlags := 24, slot := 0, constantValue := 0 }, { name := "EMPTY", type := .long, accessFlags := 24, slot := 1, constantValue := 0 }]
  methods := #[k2m0, k2m1, k2m2, k2m3]
  instanceTypes := #[]
  staticTypes := #[.int, .long]
  resolved := Array.replicate 148 none
  statics := none }

def pool3 : Array CpInfo := pool [(1, u "java/lang/Cloneable"), (0, .class_ 1), (0, u "java/lang/Object"), (0, .class_ 3)] 3

/-- java/lang/Cloneable -/
def k3 : Class := { plain "java/lang/Cloneable" (some 0) with
  accessFlags := 1537
  interfaces := #[]
  cf := some (fileOf pool3 2 #[] #[] 1537 4 #[] #[])
  fields := #[]
  methods := #[]
  instanceTypes := #[]
  staticTypes := #[]
  resolved := Array.replicate 8 none
  statics := none }

def pool4 : Array CpInfo := pool [(1, u "java/io/Serializable"), (0, .class_ 1), (0, u "java/lang/Object"), (0, .class_ 3)] 3

/-- java/io/Serializable -/
def k4 : Class := { plain "java/io/Serializable" (some 0) with
  accessFlags := 1537
  interfaces := #[]
  cf := some (fileOf pool4 2 #[] #[] 1537 4 #[] #[])
  fields := #[]
  methods := #[]
  instanceTypes := #[]
  staticTypes := #[]
  resolved := Array.replicate 8 none
  statics := none }

/-- the primitive byte -/
def k5 : Class := { plain "byte" none with kind := .primitive 'B', accessFlags := 0x411 }
/-- [B -/
def k6 : Class := { plain "[B" (some 0) with kind := .array 5 .byte, interfaces := #[3, 4], accessFlags := 1041 }

/-- the primitive int -/
def k7 : Class := { plain "int" none with kind := .primitive 'I', accessFlags := 0x411 }
/-- [I -/
def k8 : Class := { plain "[I" (some 0) with kind := .array 7 .int, interfaces := #[3, 4], accessFlags := 1041 }

def heap : Heap := #[]
def classes : Array Class := #[k0, k1, k2, k3, k4, k5, k6, k7, k8]
def interned : List (Array UInt16 × Addr) := []
def slotsUsed : Nat := 0
def theMethod : MethodId := ⟨1, 1⟩
def args0 : Array Value := #[.int 5, .int 300, .long 7, .int 9]
def aboutOver (below : List Frame) : State where
  vm := { classes := classes, interned := interned.toArray }
  heap := heap
  slotsUsed := slotsUsed
  threads := #[{ frames := .invoking theMethod args0 :: below }]
def below0 : List Frame := [.native { method := ⟨0, 0⟩, args := #[] }]
def about1 : State := aboutOver below0
def p0 : Program := .bare "" "" ""
def e0 : Env := launch0.env 0 0 0
theorem w_frames : about1.frames = Frame.invoking theMethod args0 :: below0 := rfl
set_option maxRecDepth 65536 in
theorem w_args : argsFit about1.vm theMethod args0 = true := by decide +kernel
set_option maxRecDepth 65536 in
theorem w_heap : heapFits about1 = true := by decide +kernel
set_option maxRecDepth 65536 in
theorem w_runnable : about1.curStatus? = some .runnable := by decide +kernel
set_option maxRecDepth 65536 in
theorem w_alone : about1.alone = true := by decide +kernel
set_option maxRecDepth 65536 in
theorem w_named : about1.methodNamed? x = some theMethod := by decide +kernel
set_option maxRecDepth 65536 in
theorem w_hears : about1.hears theMethod below0 = true := by decide +kernel
set_option maxRecDepth 65536 in
theorem w_ripe : about1.ripe theMethod args0 below0 = true := by decide +kernel
theorem w_running : about1.status = .running := rfl
set_option maxRecDepth 65536 in
theorem w_room : about1.hasRoom e0.platform room_1 = true :=
  launch0.hasRoom_least _ room_1 (by decide +kernel) (by decide +kernel) (by decide +kernel) (by decide +kernel) (by decide +kernel) (by decide +kernel)
theorem allAtoms_all (ts : List Jvm.Cond) (a : Array Jvm.Value) (st : Jvm.State) : (allAtoms ts).before a st = ts.all (fun c => c.before a st) := by
  induction ts with
  | nil => rfl
  | cons c t ih =>
    show (Jvm.Cond.and c (allAtoms t)).before a st = _
    rw [Jvm.Cond.before_and, ih, List.all_cons]
def words1 : List Jvm.Cond := Jvm.Cond.code x code maxLocals ret :: tables_1
/-- a 'code' word, met by the world's own term for the bytes: nothing is compared byte by byte -/
theorem code_word {y : MethodName} {bytes : ByteArray} {mx : Nat} {rt : Option FieldType} {a : Array Value} {s : State} {m : MethodId} {meth : Method} {c : Code} (h1 : s.methodNamed? y = some m) (h2 : s.vm.method? m = some meth) (h3 : meth.code = some c) (h4 : c.code = bytes)
    (h5 : (c.maxLocals == mx && c.exceptionTable.isEmpty && decide (c.maxStack ≤ mostOperands) && decide (meth.sig.returnType = rt) && !meth.locks && decide (parseMethodDescriptor y.desc = some meth.sig)) = true) : (Jvm.Cond.code y bytes mx rt).before a s = true := by
  simp only [Bool.and_eq_true, beq_iff_eq, Bool.not_eq_true', decide_eq_true_eq] at h5
  obtain ⟨⟨⟨⟨⟨g1, g2⟩, g3⟩, g4⟩, g5⟩, g6⟩ := h5
  simp [Cond.before, Cond.holds, Cond.value, h1, h2, h3, h4, g1, g2, g3, g4, g5, g6]
def isCode : Jvm.Cond → Bool
  | .code _ _ _ _ => true
  | _ => false
theorem all_split {L : List Jvm.Cond} {P : Jvm.Cond → Bool} (h1 : L.all (fun c => isCode c || P c) = true) (h2 : ∀ c ∈ L.filter isCode, P c = true) : L.all P = true := by
  refine List.all_eq_true.mpr fun c hc => ?_
  have h := List.all_eq_true.mp h1 c hc
  rcases Bool.eq_false_or_eq_true (isCode c) with hi | hi
  · exact h2 c (List.mem_filter.mpr ⟨hc, hi⟩)
  · simpa [hi] using h
set_option maxRecDepth 65536 in
theorem w_c0 : (Jvm.Cond.code x code maxLocals ret).before args0 about1 = true := code_word (m := ⟨1, 1⟩) (meth := k1m1) (c := k1c1) (by decide +kernel) rfl rfl rfl (by decide +kernel)
set_option maxRecDepth 65536 in
theorem w_c1 : (Jvm.Cond.code ({ cls := "com/example/rbmc/rbmc/SmallSet", name := "contains", desc := "(JJ)Z" } : Jvm.MethodName) prog_53_method_6_code (6 : Nat) (Option.some Jvm.ClassFile.FieldType.boolean)).before args0 about1 = true := code_word (m := ⟨2, 1⟩) (meth := k2m1) (c := k2c1) (by decide +kernel) rfl rfl rfl (by decide +kernel)
set_option maxRecDepth 65536 in
theorem w_c2 : (Jvm.Cond.code ({ cls := "com/example/rbmc/rbmc/SmallSet", name := "least", desc := "(J)I" } : Jvm.MethodName) prog_53_method_11_code (2 : Nat) (Option.some Jvm.ClassFile.FieldType.int)).before args0 about1 = true := code_word (m := ⟨2, 2⟩) (meth := k2m2) (c := k2c2) (by decide +kernel) rfl rfl rfl (by decide +kernel)
set_option maxRecDepth 65536 in
theorem w_c3 : (Jvm.Cond.code ({ cls := "com/example/rbmc/rbmc/SmallSet", name := "mask", desc := "(J)I" } : Jvm.MethodName) prog_53_method_14_code (2 : Nat) (Option.some Jvm.ClassFile.FieldType.int)).before args0 about1 = true := code_word (m := ⟨2, 3⟩) (meth := k2m3) (c := k2c3) (by decide +kernel) rfl rfl rfl (by decide +kernel)
def codes1 : List Jvm.Cond := [Jvm.Cond.code x code maxLocals ret, Jvm.Cond.code ({ cls := "com/example/rbmc/rbmc/SmallSet", name := "contains", desc := "(JJ)Z" } : Jvm.MethodName) prog_53_method_6_code (6 : Nat) (Option.some Jvm.ClassFile.FieldType.boolean), Jvm.Cond.code ({ cls := "com/example/rbmc/rbmc/SmallSet", name := "least", desc := "(J)I" } : Jvm.MethodName) prog_53_method_11_code (2 : Nat) (Option.some Jvm.ClassFile.FieldType.int), Jvm.Cond.code ({ cls := "com/example/rbmc/rbmc/SmallSet", name := "mask", desc := "(J)I" } : Jvm.MethodName) prog_53_method_14_code (2 : Nat) (Option.some Jvm.ClassFile.FieldType.int)]
set_option maxRecDepth 65536 in
theorem codes_eq : words1.filter isCode = codes1 := rfl
theorem w_codes : ∀ c ∈ words1.filter isCode, c.before args0 about1 = true := by
  rw [codes_eq]
  intro c hc
  simp only [codes1, List.mem_cons, List.not_mem_nil, or_false] at hc
  rcases hc with rfl | rfl | rfl | rfl
  · exact w_c0
  · exact w_c1
  · exact w_c2
  · exact w_c3
set_option maxRecDepth 65536 in
theorem w_t1 : words1.all (fun c => isCode c || c.before args0 about1) = true := by decide +kernel
theorem w_tables : (allAtoms (Jvm.Cond.code x code maxLocals ret :: tables_1)).before args0 about1 = true := by
  rw [allAtoms_all]
  show words1.all (fun c => c.before args0 about1) = true
  refine all_split ?_ w_codes
  rw [w_t1]
set_option maxRecDepth 65536 in
theorem w_case : (Jvm.Cond.and given_1 narrow_1).before args0 about1 = true := by decide +kernel
theorem w_applies : (headSpec (Jvm.Cond.code x code maxLocals ret :: tables_1) room_1).applies x e0.platform about1 = true :=
  (Spec.applies_iff w_frames).mpr ⟨w_running, w_runnable, w_alone, w_named, w_hears, w_ripe, w_room, w_tables⟩
theorem atStart : AtStart classFile x code maxLocals ret World_1 tables_1 room_1 Calls_1 rest_1 Pre_1 launch0 p0 e0 about1 theMethod args0 below0 :=
  ⟨lists_1, trivial, launch0.admits_env _ _ _, launch0.least_env, fairChoices_fair.cas, fairChoices_fair.clock, w_frames, w_args, w_heap, w_applies, trivial, trivial, w_case⟩
end start1
theorem witness_1 : WitnessClaimed_1 := ⟨start1.p0, start1.e0, start1.about1, start1.theMethod, start1.args0, start1.below0, start1.atStart⟩
end Jvm.Pilot.@@N@@
