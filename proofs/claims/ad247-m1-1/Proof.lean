import JvmDerived
import JvmDerived.Pilot.@@N@@Statement
import JvmDerived.Pilot.@@N@@Code
set_option linter.unusedVariables false
set_option linter.unusedSimpArgs false
namespace Jvm.RoadKit
open Sem ClassFile Op Lib Jvm.Stand Jvm.Free Jvm.LawKit
section New
variable {p : Program} {l : Launch} {e : Env} {R : Room} {s : State} {m : MethodId} {args : Array Value} {below : List Frame} {meth : Method} {c : Code} {T : State} {locs : List Loc} {cells slots : Nat}
theorem retI (X : Stand p l e R s m args below meth c T locs cells slots) (hx : p.tables.exec = Jvm.exec) {pc : Nat} {Ls : Array Slot} {z : Int32} {rest : List Value} (hret : meth.sig.returnType = some .int) (hd : decode c.code pc = .ok (.ireturn, 1)) {fs : List Frame}
    (hl : ∀ (f : JFrame) (acts : List Action), f.method = m → f.locked = none → f.entered = [] → (doReturn e (T.setTop f) acts (some (.int z))).1 = T.setFrames fs) : Steps p.tables e below (T.setTop (mkF m pc Ls (.int z :: rest))) (T.setFrames fs) := by
  have hm' : T.vm.method? m = some meth := X.method'
  have hn : narrow .int (.int z) = .int z := rfl
  show Steps p.tables e below (T.setTop { method := m, pc := pc, locals := Ls, stack := _ :: rest, locked := none }) _
  jvm_step X.here [X.here.top, hx, hd, hm', hret, hn]
  first | (intro acts; rw [hl _ acts rfl rfl rfl]) | rw [hl _ _ rfl rfl rfl]
  exact Steps.refl _
end New
end Jvm.RoadKit
namespace Jvm.Pilot.@@N@@
open Jvm Jvm.ClassFile Sem Op Lib Jvm.Free Jvm.Stand Jvm.LawKit Jvm.RoadKit Bundle Jvm.Pilot.@@N@@.Jvm.D
theorem own_nar0 : nar .boolean (0 : Int32) = (0 : Int32) := rfl
theorem own_nar1 : nar .boolean (1 : Int32) = (1 : Int32) := rfl
def exF (x y : Int64) : Int32 := if x < (2 : Int64) * y then 0 else 1
def tT (y : Int64) : Int64 := y &&& (4611686018427387903 : Int64)
def cX (x y : Int64) : Int32 := if x < tT y then 0 else if x - tT y < tT y then 0 else 1
def lawF (x y : Int64) : Int32 := if exF x (tT y) = cX x y then (if exF (tT y + tT y) (tT y) = 0 then 0 else if exF (tT y + tT y - 1) (tT y) = 0 then 1 else 0) else 0
theorem exF_lt {x y : Int64} (h : x.toInt < ((2 : Int64) * y).toInt) : exF x y = 0 := if_pos (Int64.lt_iff_toInt_lt.mpr h)
theorem exF_ge {x y : Int64} (h : ¬ x.toInt < ((2 : Int64) * y).toInt) : exF x y = 1 := if_neg (fun q => h (Int64.lt_iff_toInt_lt.mp q))
theorem lawF_one (x y : Int64) : lawF x y = 1 := by
  have ht : (tT y).toInt = y.toInt % (2 ^ 62 : Nat) := c_maskL y _ 62 (by decide) (by decide)
  have hx := rng64 x
  have h2 := c_lmul 2 (tT y)
  rw [show (2 : Int64).toInt = 2 from rfl] at h2
  have r2 := rng64 ((2 : Int64) * tT y)
  have h3 := c_ladd (tT y) (tT y)
  have r3 := rng64 (tT y + tT y)
  have h4 := c_lsub (tT y + tT y) 1
  rw [show (1 : Int64).toInt = 1 from rfl] at h4
  have r4 := rng64 (tT y + tT y - 1)
  have h5 := c_lsub x (tT y)
  have r5 := rng64 (x - tT y)
  have a1 : exF (tT y + tT y) (tT y) = 1 := exF_ge (by omega)
  have a2 : exF (tT y + tT y - 1) (tT y) = 0 := exF_lt (by omega)
  have a3 : exF x (tT y) = cX x y := by
    unfold cX
    by_cases q1 : x.toInt < (tT y).toInt
    · rw [if_pos (Int64.lt_iff_toInt_lt.mpr q1)]; exact exF_lt (by omega)
    · rw [if_neg (fun q => q1 (Int64.lt_iff_toInt_lt.mp q))]
      by_cases q2 : (x - tT y).toInt < (tT y).toInt
      · rw [if_pos (Int64.lt_iff_toInt_lt.mpr q2)]; exact exF_lt (by omega)
      · rw [if_neg (fun q => q2 (Int64.lt_iff_toInt_lt.mp q))]; exact exF_ge (by omega)
  unfold lawF
  rw [if_pos a3, a1, a2, if_neg (by decide), if_pos rfl]
theorem d_prog_59_method_4_0 : decode prog_59_method_4_code 0 = .ok (.lload_n 0, 1) := by decide +kernel
theorem d_prog_59_method_4_1 : decode prog_59_method_4_code 1 = .ok (.ldc2_w 23, 3) := by decide +kernel
theorem d_prog_59_method_4_4 : decode prog_59_method_4_code 4 = .ok (.lload_n 2, 1) := by decide +kernel
theorem d_prog_59_method_4_5 : decode prog_59_method_4_code 5 = .ok (.lmul, 1) := by decide +kernel
theorem d_prog_59_method_4_6 : decode prog_59_method_4_code 6 = .ok (.lcmp, 1) := by decide +kernel
theorem d_prog_59_method_4_7 : decode prog_59_method_4_code 7 = .ok (.ifCond .lt 7, 3) := by decide +kernel
theorem d_prog_59_method_4_10 : decode prog_59_method_4_code 10 = .ok (.iconst 1, 1) := by decide +kernel
theorem d_prog_59_method_4_11 : decode prog_59_method_4_code 11 = .ok (.goto 4, 3) := by decide +kernel
theorem d_prog_59_method_4_14 : decode prog_59_method_4_code 14 = .ok (.iconst 0, 1) := by decide +kernel
theorem d_prog_59_method_4_15 : decode prog_59_method_4_code 15 = .ok (.ireturn, 1) := by decide +kernel
theorem pn_0 : plainName "com/example/inpuzz/inpuzz/StepWatch" = true := by first | (simp [plainName, overriddenIn]; done) | decide +kernel
theorem ef_ex (m : MethodId) (xa : Int64) (xb : Int64) : entryFrame m #[(.long xa), (.long xb)] 4 = mkF m 0 #[.val (.long xa), .second, .val (.long xb), .second] [] := by first | (simp [entryFrame, mkF, argsToLocals, Value.category]; done) | rfl
def Q_ex (Z : State) (xa : Int64) (xb : Int64) (h0 : Heap) (n0 : Nat) (v : Option Value) (h : Heap) (L : List Loc) : Prop := v = some (.int (exF xa xb)) ∧ Fr n0 L ∧ h = h0
set_option maxRecDepth 65536 in
set_option maxHeartbeats 40000000 in
theorem rm_ex (l : Launch) (Z : State) (a0 : Array Value) (hw : ∀ d ∈ tables_1, d.before a0 Z = true) (ws : List Jvm.Cond) (xa : Int64) (xb : Int64) (h0 : Heap) (n0 : Nat) (Z0 : n0 ≤ h0.size) :
    MetFree l (⟨"com/example/inpuzz/inpuzz/StepWatch", "exhausted", "(JJ)Z"⟩ : MethodName) (head1 (Jvm.Cond.code (⟨"com/example/inpuzz/inpuzz/StepWatch", "exhausted", "(JJ)Z"⟩ : MethodName) prog_59_method_4_code 4 (some .boolean) :: ws) ({ frames := 0, cells := 0, slots := 0, locals := 0 } : Room)) (fun a U => a = #[(.long xa), (.long xb)] ∧ Z.Warmed39 U.vm ∧ U.heap = h0) (fun _ _ _ _ _ => True) (fun _ U o U' => ∃ v L, o = .returned v ∧ Q_ex Z xa xb h0 n0 v U'.heap L ∧ FrameEnd U o U' L ({ frames := 0, cells := 0, slots := 0, locals := 0 } : Room).cells ({ frames := 0, cells := 0, slots := 0, locals := 0 } : Room).slots) := by
  refine MetFree.of_bodySF (plainFor_of_name pn_0) hisR ?_
  intro p e s m args below meth c s₁ Bd hml0 hP hK
  obtain ⟨rfl, hZ, hh⟩ := hP
  have hx := Bd.exec
  have hby := Bd.bytes
  have hml : c.maxLocals = 4 := hml0
  have hown : s.vm.findClass "com/example/inpuzz/inpuzz/StepWatch" = some m.cls := findClass_of_methodNamed Bd.named
  have X0 : Stand p l e ({ frames := 0, cells := 0, slots := 0, locals := 0 } : Room) s m #[(.long xa), (.long xb)] below meth c s₁ [] 0 0 := Stand.of_body Bd
  have e0 : s₁.heap = h0 := by rw [← hh, Bd.state]; rfl
  have N0 := Fr.nil n0
  have pre0 : ∀ t, Steps p.tables e below (s₁.setTop (mkF m 0 #[.val (.long xa), .second, .val (.long xb), .second] [])) t → Steps p.tables e below (s₁.setTop (entryFrame m #[(.long xa), (.long xb)] 4)) t := fun t k => castTop (ef_ex m xa xb) k
  obtain ⟨fs, hr, hrun, hended, hW, hsame⟩ := X0.leave (v := some (.int (exF xa xb))) (fun h => by rw [Bd.returns] at h; cases h)
  refine ⟨_, _, pre0 _ ?_, hrun, hended, _, _, rfl, ?_, ⟨_, rfl⟩, hW, hsame.mono (by decide) (by decide)⟩
  · show Steps p.tables e below (s₁.setTop (mkF m 0 #[.val (.long xa), .second, .val (.long xb), .second] [])) _
    refine XS.lloadN X0.here hx rfl (hb hby d_prog_59_method_4_0) rfl ?_
    show Steps p.tables e below (s₁.setTop (mkF m 1 #[.val (.long xa), .second, .val (.long xb), .second] [(.long xa)])) _
    refine X0.ldc2Long hx hown (mvT hZ (hw _ (List.mem_of_getElem? (i := 5) rfl))) (g := (mkF m 1 #[.val (.long xa), .second, .val (.long xb), .second] [(.long xa)])) rfl (hb hby d_prog_59_method_4_1) _ ?_
    show Steps p.tables e below (s₁.setTop (mkF m 4 #[.val (.long xa), .second, .val (.long xb), .second] [(.long (2 : Int64)), (.long xa)])) _
    refine XS.lloadN X0.here hx rfl (hb hby d_prog_59_method_4_4) rfl ?_
    show Steps p.tables e below (s₁.setTop (mkF m 5 #[.val (.long xa), .second, .val (.long xb), .second] [(.long xb), (.long (2 : Int64)), (.long xa)])) _
    refine XS.lmul X0.here hx rfl (hb hby d_prog_59_method_4_5) rfl ?_
    show Steps p.tables e below (s₁.setTop (mkF m 6 #[.val (.long xa), .second, .val (.long xb), .second] [(.long ((2 : Int64) * xb)), (.long xa)])) _
    refine XS.lcmp X0.here hx rfl (hb hby d_prog_59_method_4_6) rfl ?_
    show Steps p.tables e below (s₁.setTop (mkF m 7 #[.val (.long xa), .second, .val (.long xb), .second] [(.int (lcmpW xa ((2 : Int64) * xb)))])) _
    by_cases h7 : xa < ((2 : Int64) * xb)
    · refine XS.ifYes X0.here hx rfl (pc0 := 7) (pc' := 14) rfl (hb hby d_prog_59_method_4_7) rfl ((if0 _ _).trans (tlt ((lw_lt _ _).2 h7)).1) (by decide) (by decide) ?_
      show Steps p.tables e below (s₁.setTop (mkF m 14 #[.val (.long xa), .second, .val (.long xb), .second] [])) _
      refine XS.iconst X0.here hx rfl (hb hby d_prog_59_method_4_14) ?_
      show Steps p.tables e below (s₁.setTop (mkF m 15 #[.val (.long xa), .second, .val (.long xb), .second] [(.int (0 : Int32))])) _
      exact retN X0 hx (t := .boolean) Bd.returns (by simp) (hb hby d_prog_59_method_4_15) (by rw [show nar .boolean (0 : Int32) = (exF xa xb) from (own_nar0).trans (by simp only [exF, h7, eq_self, if_true, if_false])]; exact hr)
    · refine XS.ifNo X0.here hx rfl (hb hby d_prog_59_method_4_7) rfl ((if0 _ _).trans (flt (fun q => h7 ((lw_lt _ _).1 q))).1) ?_
      show Steps p.tables e below (s₁.setTop (mkF m 10 #[.val (.long xa), .second, .val (.long xb), .second] [])) _
      refine XS.iconst X0.here hx rfl (hb hby d_prog_59_method_4_10) ?_
      show Steps p.tables e below (s₁.setTop (mkF m 11 #[.val (.long xa), .second, .val (.long xb), .second] [(.int (1 : Int32))])) _
      refine XS.goto X0.here hx rfl (pc0 := 11) (pc' := 15) rfl (hb hby d_prog_59_method_4_11) (by decide) (by decide) ?_
      show Steps p.tables e below (s₁.setTop (mkF m 15 #[.val (.long xa), .second, .val (.long xb), .second] [(.int (1 : Int32))])) _
      exact retN X0 hx (t := .boolean) Bd.returns (by simp) (hb hby d_prog_59_method_4_15) (by rw [show nar .boolean (1 : Int32) = (exF xa xb) from (own_nar1).trans (by simp only [exF, h7, eq_self, if_true, if_false])]; exact hr)
  · show Q_ex Z xa xb h0 n0 _ s₁.heap _
    exact ⟨rfl, N0, e0⟩
theorem pn_1 : plainName "com/example/inpuzz/inpuzz/StepWatchExhaustedPinLaw" = true := by first | (simp [plainName, overriddenIn]; done) | decide +kernel
theorem pd_0 : parseMethodDescriptor "(JJ)Z" = some ⟨[.long, .long], some .boolean⟩ := by decide +kernel
theorem ef_law (m : MethodId) (xa : Int64) (xb : Int64) : entryFrame m #[(.long xa), (.long xb)] maxLocals = mkF m 0 #[.val (.long xa), .second, .val (.long xb), .second, .unset, .unset, .unset, .unset, .unset, .unset, .unset] [] := by first | (simp [entryFrame, mkF, argsToLocals, Value.category, maxLocals]; done) | rfl
def Q_law (Z : State) (xa : Int64) (xb : Int64) (h0 : Heap) (n0 : Nat) (v : Option Value) (h : Heap) (L : List Loc) : Prop := v = some (.int (lawF xa xb)) ∧ Fr n0 L ∧ True
set_option maxRecDepth 65536 in
set_option maxHeartbeats 40000000 in
theorem rm_law (l : Launch) (Z : State) (a0 : Array Value) (hw : ∀ d ∈ tables_1, d.before a0 Z = true) (ws : List Jvm.Cond) (xa : Int64) (xb : Int64) (h0 : Heap) (n0 : Nat) (Z0 : n0 ≤ h0.size) :
    MetFree l x (head1 (Jvm.Cond.code x code maxLocals ret :: ws) room_1) (fun a U => a = #[(.long xa), (.long xb)] ∧ Z.Warmed39 U.vm ∧ U.heap = h0) (fun _ _ _ _ _ => True) (fun _ U o U' => ∃ v L, o = .returned v ∧ Q_law Z xa xb h0 n0 v U'.heap L ∧ FrameEnd U o U' L room_1.cells room_1.slots) := by
  refine MetFree.of_bodySF (plainFor_of_name pn_1) hisR ?_
  intro p e s m args below meth c s₁ Bd hml0 hP hK
  obtain ⟨rfl, hZ, hh⟩ := hP
  have hx := Bd.exec
  have hby := Bd.bytes
  have hml : c.maxLocals = 11 := hml0
  have hown : s.vm.findClass "com/example/inpuzz/inpuzz/StepWatchExhaustedPinLaw" = some m.cls := findClass_of_methodNamed Bd.named
  have X0 : Stand p l e room_1 s m #[(.long xa), (.long xb)] below meth c s₁ [] 0 0 := Stand.of_body Bd
  have e0 : s₁.heap = h0 := by rw [← hh, Bd.state]; rfl
  have N0 := Fr.nil n0
  have pre0 : ∀ t, Steps p.tables e below (s₁.setTop (mkF m 0 #[.val (.long xa), .second, .val (.long xb), .second, .unset, .unset, .unset, .unset, .unset, .unset, .unset] [])) t → Steps p.tables e below (s₁.setTop (entryFrame m #[(.long xa), (.long xb)] maxLocals)) t := fun t k => castTop (ef_law m xa xb) k
  obtain ⟨_, _, ⟨T1, L1, k1, n1⟩, -, X1, ⟨Lc1, hQ1, l1, y1, z1⟩, st1⟩ := Jvm.LawKit.callS X0 hx (y := (⟨"com/example/inpuzz/inpuzz/StepWatch", "exhausted", "(JJ)Z"⟩ : MethodName)) hown (mvT hZ (hw _ (List.mem_of_getElem? (i := 1) rfl))) (mvT hZ (hw _ (List.mem_of_getElem? (i := 2) rfl))) (mvT hZ (hw _ (List.mem_of_getElem? (i := 3) rfl))) (mvT hZ (hw _ (List.mem_of_getElem? (i := 4) rfl))) (by decide) (backOf (W := 0) (rm_ex l Z a0 hw [] ((tT xb) + (tT xb)) (tT xb) h0 n0 Z0) hZ (hw _ (List.mem_of_getElem? (i := 4) rfl)) (hw _ (List.mem_of_getElem? (i := 3) rfl)) (by decide) (by decide)) (g := (mkF m 43 #[.val (.long xa), .second, .val (.long xb), .second, .val (.long (tT xb)), .second, .val (.long xa), .second, .val (.int (cX xa xb)), .unset, .unset] [(.long (tT xb)), (.long ((tT xb) + (tT xb)))])) rfl (by rw [hml]; rfl) (argsL := [(.long ((tT xb) + (tT xb))), (.long (tT xb))]) (rest := []) (lenOf pd_0 rfl) rfl (by show 2 * 0 + _ ≤ _; exact Nat.le_of_eq rfl) (hb hby at_43) (fun _ _ => ⟨rfl, e0, (by decide : 0 + 0 ≤ _), (by decide : 0 + 0 ≤ _)⟩)
  dsimp only [Pt.U, Pt.locs, Pt.cells, Pt.slots] at X1 l1 y1 z1 st1 hQ1
  subst l1 y1 z1
  obtain ⟨rfl, N1q, e1⟩ := hQ1
  have N1 := Fr.app N0 N1q
  obtain ⟨_, _, ⟨T2, L2, k2, n2⟩, -, X2, ⟨Lc2, hQ2, l2, y2, z2⟩, st2⟩ := Jvm.LawKit.callS X1 hx (y := (⟨"com/example/inpuzz/inpuzz/StepWatch", "exhausted", "(JJ)Z"⟩ : MethodName)) hown (mvT hZ (hw _ (List.mem_of_getElem? (i := 1) rfl))) (mvT hZ (hw _ (List.mem_of_getElem? (i := 2) rfl))) (mvT hZ (hw _ (List.mem_of_getElem? (i := 3) rfl))) (mvT hZ (hw _ (List.mem_of_getElem? (i := 4) rfl))) (by decide) (backOf (W := 0) (rm_ex l Z a0 hw [] (((tT xb) + (tT xb)) - (1 : Int64)) (tT xb) h0 n0 Z0) hZ (hw _ (List.mem_of_getElem? (i := 4) rfl)) (hw _ (List.mem_of_getElem? (i := 3) rfl)) (by decide) (by decide)) (g := (mkF m 57 #[.val (.long xa), .second, .val (.long xb), .second, .val (.long (tT xb)), .second, .val (.long xa), .second, .val (.int (cX xa xb)), .val (.int (exF ((tT xb) + (tT xb)) (tT xb))), .unset] [(.long (tT xb)), (.long (((tT xb) + (tT xb)) - (1 : Int64)))])) rfl (by rw [hml]; rfl) (argsL := [(.long (((tT xb) + (tT xb)) - (1 : Int64))), (.long (tT xb))]) (rest := []) (lenOf pd_0 rfl) rfl (by show 2 * 0 + _ ≤ _; exact Nat.le_of_eq rfl) (hb hby at_57) (fun _ _ => ⟨rfl, e1, (by decide : 0 + 0 ≤ _), (by decide : 0 + 0 ≤ _)⟩)
  dsimp only [Pt.U, Pt.locs, Pt.cells, Pt.slots] at X2 l2 y2 z2 st2 hQ2
  subst l2 y2 z2
  obtain ⟨rfl, N2q, e2⟩ := hQ2
  have N2 := Fr.app N1 N2q
  obtain ⟨_, _, ⟨T3, L3, k3, n3⟩, -, X3, ⟨Lc3, hQ3, l3, y3, z3⟩, st3⟩ := Jvm.LawKit.callS X2 hx (y := (⟨"com/example/inpuzz/inpuzz/StepWatch", "exhausted", "(JJ)Z"⟩ : MethodName)) hown (mvT hZ (hw _ (List.mem_of_getElem? (i := 1) rfl))) (mvT hZ (hw _ (List.mem_of_getElem? (i := 2) rfl))) (mvT hZ (hw _ (List.mem_of_getElem? (i := 3) rfl))) (mvT hZ (hw _ (List.mem_of_getElem? (i := 4) rfl))) (by decide) (backOf (W := 0) (rm_ex l Z a0 hw [] xa (tT xb) h0 n0 Z0) hZ (hw _ (List.mem_of_getElem? (i := 4) rfl)) (hw _ (List.mem_of_getElem? (i := 3) rfl)) (by decide) (by decide)) (g := (mkF m 66 #[.val (.long xa), .second, .val (.long xb), .second, .val (.long (tT xb)), .second, .val (.long xa), .second, .val (.int (cX xa xb)), .val (.int (exF ((tT xb) + (tT xb)) (tT xb))), .val (.int (exF (((tT xb) + (tT xb)) - (1 : Int64)) (tT xb)))] [(.long (tT xb)), (.long xa)])) rfl (by rw [hml]; rfl) (argsL := [(.long xa), (.long (tT xb))]) (rest := []) (lenOf pd_0 rfl) rfl (by show 2 * 0 + _ ≤ _; exact Nat.le_of_eq rfl) (hb hby at_66) (fun _ _ => ⟨rfl, e2, (by decide : 0 + 0 ≤ _), (by decide : 0 + 0 ≤ _)⟩)
  dsimp only [Pt.U, Pt.locs, Pt.cells, Pt.slots] at X3 l3 y3 z3 st3 hQ3
  subst l3 y3 z3
  obtain ⟨rfl, N3q, e3⟩ := hQ3
  have N3 := Fr.app N2 N3q
  obtain ⟨fs, hr, hrun, hended, hW, hsame⟩ := X3.leave (v := some (.int (lawF xa xb))) (fun h => by rw [Bd.returns] at h; cases h)
  refine ⟨_, _, pre0 _ ?_, hrun, hended, _, _, rfl, ?_, ⟨_, rfl⟩, hW, hsame.mono (by decide) (by decide)⟩
  · show Steps p.tables e below (s₁.setTop (mkF m 0 #[.val (.long xa), .second, .val (.long xb), .second, .unset, .unset, .unset, .unset, .unset, .unset, .unset] [])) _
    refine XS.lloadN X0.here hx rfl (hb hby at_0) rfl ?_
    show Steps p.tables e below (s₁.setTop (mkF m 1 #[.val (.long xa), .second, .val (.long xb), .second, .unset, .unset, .unset, .unset, .unset, .unset, .unset] [(.long xb)])) _
    refine X0.ldc2Long hx hown (mvT hZ (hw _ (List.mem_of_getElem? (i := 0) rfl))) (g := (mkF m 1 #[.val (.long xa), .second, .val (.long xb), .second, .unset, .unset, .unset, .unset, .unset, .unset, .unset] [(.long xb)])) rfl (hb hby at_1) _ ?_
    show Steps p.tables e below (s₁.setTop (mkF m 4 #[.val (.long xa), .second, .val (.long xb), .second, .unset, .unset, .unset, .unset, .unset, .unset, .unset] [(.long (4611686018427387903 : Int64)), (.long xb)])) _
    refine XS.land X0.here hx rfl (hb hby at_4) rfl ?_
    show Steps p.tables e below (s₁.setTop (mkF m 5 #[.val (.long xa), .second, .val (.long xb), .second, .unset, .unset, .unset, .unset, .unset, .unset, .unset] [(.long (xb &&& (4611686018427387903 : Int64)))])) _
    refine XS.lstore X0.here hx rfl (hb hby at_5) rfl (l' := #[.val (.long xa), .second, .val (.long xb), .second, .val (.long (tT xb)), .second, .unset, .unset, .unset, .unset, .unset]) rfl ?_
    show Steps p.tables e below (s₁.setTop (mkF m 7 #[.val (.long xa), .second, .val (.long xb), .second, .val (.long (tT xb)), .second, .unset, .unset, .unset, .unset, .unset] [])) _
    refine XS.lloadN X0.here hx rfl (hb hby at_7) rfl ?_
    show Steps p.tables e below (s₁.setTop (mkF m 8 #[.val (.long xa), .second, .val (.long xb), .second, .val (.long (tT xb)), .second, .unset, .unset, .unset, .unset, .unset] [(.long xa)])) _
    refine XS.lstore X0.here hx rfl (hb hby at_8) rfl (l' := #[.val (.long xa), .second, .val (.long xb), .second, .val (.long (tT xb)), .second, .val (.long xa), .second, .unset, .unset, .unset]) rfl ?_
    show Steps p.tables e below (s₁.setTop (mkF m 10 #[.val (.long xa), .second, .val (.long xb), .second, .val (.long (tT xb)), .second, .val (.long xa), .second, .unset, .unset, .unset] [])) _
    refine XS.lload X0.here hx rfl (hb hby at_10) rfl ?_
    show Steps p.tables e below (s₁.setTop (mkF m 12 #[.val (.long xa), .second, .val (.long xb), .second, .val (.long (tT xb)), .second, .val (.long xa), .second, .unset, .unset, .unset] [(.long xa)])) _
    refine XS.lload X0.here hx rfl (hb hby at_12) rfl ?_
    show Steps p.tables e below (s₁.setTop (mkF m 14 #[.val (.long xa), .second, .val (.long xb), .second, .val (.long (tT xb)), .second, .val (.long xa), .second, .unset, .unset, .unset] [(.long (tT xb)), (.long xa)])) _
    refine XS.lcmp X0.here hx rfl (hb hby at_14) rfl ?_
    show Steps p.tables e below (s₁.setTop (mkF m 15 #[.val (.long xa), .second, .val (.long xb), .second, .val (.long (tT xb)), .second, .val (.long xa), .second, .unset, .unset, .unset] [(.int (lcmpW xa (tT xb)))])) _
    suffices J15 : Steps p.tables e below (s₁.setTop (mkF m 34 #[.val (.long xa), .second, .val (.long xb), .second, .val (.long (tT xb)), .second, .val (.long xa), .second, .unset, .unset, .unset] [(.int (cX xa xb))])) (T3.setFrames fs) by
      by_cases h15 : xa < (tT xb)
      · refine XS.ifYes X0.here hx rfl (pc0 := 15) (pc' := 33) rfl (hb hby at_15) rfl ((if0 _ _).trans (tlt ((lw_lt _ _).2 h15)).1) (by decide) (by decide) ?_
        show Steps p.tables e below (s₁.setTop (mkF m 33 #[.val (.long xa), .second, .val (.long xb), .second, .val (.long (tT xb)), .second, .val (.long xa), .second, .unset, .unset, .unset] [])) _
        refine XS.iconst X0.here hx rfl (hb hby at_33) ?_
        show Steps p.tables e below (s₁.setTop (mkF m 34 #[.val (.long xa), .second, .val (.long xb), .second, .val (.long (tT xb)), .second, .val (.long xa), .second, .unset, .unset, .unset] [(.int (0 : Int32))])) _
        rw [show (cX xa xb) = (0 : Int32) from by simp only [cX, h15, eq_self, if_true, if_false]] at J15
        exact J15
      · refine XS.ifNo X0.here hx rfl (hb hby at_15) rfl ((if0 _ _).trans (flt (fun q => h15 ((lw_lt _ _).1 q))).1) ?_
        show Steps p.tables e below (s₁.setTop (mkF m 18 #[.val (.long xa), .second, .val (.long xb), .second, .val (.long (tT xb)), .second, .val (.long xa), .second, .unset, .unset, .unset] [])) _
        refine XS.lload X0.here hx rfl (hb hby at_18) rfl ?_
        show Steps p.tables e below (s₁.setTop (mkF m 20 #[.val (.long xa), .second, .val (.long xb), .second, .val (.long (tT xb)), .second, .val (.long xa), .second, .unset, .unset, .unset] [(.long xa)])) _
        refine XS.lload X0.here hx rfl (hb hby at_20) rfl ?_
        show Steps p.tables e below (s₁.setTop (mkF m 22 #[.val (.long xa), .second, .val (.long xb), .second, .val (.long (tT xb)), .second, .val (.long xa), .second, .unset, .unset, .unset] [(.long (tT xb)), (.long xa)])) _
        refine XS.lsub X0.here hx rfl (hb hby at_22) rfl ?_
        show Steps p.tables e below (s₁.setTop (mkF m 23 #[.val (.long xa), .second, .val (.long xb), .second, .val (.long (tT xb)), .second, .val (.long xa), .second, .unset, .unset, .unset] [(.long (xa - (tT xb)))])) _
        refine XS.lload X0.here hx rfl (hb hby at_23) rfl ?_
        show Steps p.tables e below (s₁.setTop (mkF m 25 #[.val (.long xa), .second, .val (.long xb), .second, .val (.long (tT xb)), .second, .val (.long xa), .second, .unset, .unset, .unset] [(.long (tT xb)), (.long (xa - (tT xb)))])) _
        refine XS.lcmp X0.here hx rfl (hb hby at_25) rfl ?_
        show Steps p.tables e below (s₁.setTop (mkF m 26 #[.val (.long xa), .second, .val (.long xb), .second, .val (.long (tT xb)), .second, .val (.long xa), .second, .unset, .unset, .unset] [(.int (lcmpW (xa - (tT xb)) (tT xb)))])) _
        by_cases h26 : (xa - (tT xb)) < (tT xb)
        · refine XS.ifYes X0.here hx rfl (pc0 := 26) (pc' := 33) rfl (hb hby at_26) rfl ((if0 _ _).trans (tlt ((lw_lt _ _).2 h26)).1) (by decide) (by decide) ?_
          show Steps p.tables e below (s₁.setTop (mkF m 33 #[.val (.long xa), .second, .val (.long xb), .second, .val (.long (tT xb)), .second, .val (.long xa), .second, .unset, .unset, .unset] [])) _
          refine XS.iconst X0.here hx rfl (hb hby at_33) ?_
          show Steps p.tables e below (s₁.setTop (mkF m 34 #[.val (.long xa), .second, .val (.long xb), .second, .val (.long (tT xb)), .second, .val (.long xa), .second, .unset, .unset, .unset] [(.int (0 : Int32))])) _
          rw [show (cX xa xb) = (0 : Int32) from by simp only [cX, h15, h26, eq_self, if_true, if_false]] at J15
          exact J15
        · refine XS.ifNo X0.here hx rfl (hb hby at_26) rfl ((if0 _ _).trans (flt (fun q => h26 ((lw_lt _ _).1 q))).1) ?_
          show Steps p.tables e below (s₁.setTop (mkF m 29 #[.val (.long xa), .second, .val (.long xb), .second, .val (.long (tT xb)), .second, .val (.long xa), .second, .unset, .unset, .unset] [])) _
          refine XS.iconst X0.here hx rfl (hb hby at_29) ?_
          show Steps p.tables e below (s₁.setTop (mkF m 30 #[.val (.long xa), .second, .val (.long xb), .second, .val (.long (tT xb)), .second, .val (.long xa), .second, .unset, .unset, .unset] [(.int (1 : Int32))])) _
          refine XS.goto X0.here hx rfl (pc0 := 30) (pc' := 34) rfl (hb hby at_30) (by decide) (by decide) ?_
          show Steps p.tables e below (s₁.setTop (mkF m 34 #[.val (.long xa), .second, .val (.long xb), .second, .val (.long (tT xb)), .second, .val (.long xa), .second, .unset, .unset, .unset] [(.int (1 : Int32))])) _
          rw [show (cX xa xb) = (1 : Int32) from by simp only [cX, h15, h26, eq_self, if_true, if_false]] at J15
          exact J15
    show Steps p.tables e below (s₁.setTop (mkF m 34 #[.val (.long xa), .second, .val (.long xb), .second, .val (.long (tT xb)), .second, .val (.long xa), .second, .unset, .unset, .unset] [(.int (cX xa xb))])) _
    refine XS.istore X0.here hx rfl (hb hby at_34) rfl (l' := #[.val (.long xa), .second, .val (.long xb), .second, .val (.long (tT xb)), .second, .val (.long xa), .second, .val (.int (cX xa xb)), .unset, .unset]) rfl ?_
    show Steps p.tables e below (s₁.setTop (mkF m 36 #[.val (.long xa), .second, .val (.long xb), .second, .val (.long (tT xb)), .second, .val (.long xa), .second, .val (.int (cX xa xb)), .unset, .unset] [])) _
    refine XS.lload X0.here hx rfl (hb hby at_36) rfl ?_
    show Steps p.tables e below (s₁.setTop (mkF m 38 #[.val (.long xa), .second, .val (.long xb), .second, .val (.long (tT xb)), .second, .val (.long xa), .second, .val (.int (cX xa xb)), .unset, .unset] [(.long (tT xb))])) _
    refine XS.lload X0.here hx rfl (hb hby at_38) rfl ?_
    show Steps p.tables e below (s₁.setTop (mkF m 40 #[.val (.long xa), .second, .val (.long xb), .second, .val (.long (tT xb)), .second, .val (.long xa), .second, .val (.int (cX xa xb)), .unset, .unset] [(.long (tT xb)), (.long (tT xb))])) _
    refine XS.ladd X0.here hx rfl (hb hby at_40) rfl ?_
    show Steps p.tables e below (s₁.setTop (mkF m 41 #[.val (.long xa), .second, .val (.long xb), .second, .val (.long (tT xb)), .second, .val (.long xa), .second, .val (.int (cX xa xb)), .unset, .unset] [(.long ((tT xb) + (tT xb)))])) _
    refine XS.lload X0.here hx rfl (hb hby at_41) rfl ?_
    show Steps p.tables e below (s₁.setTop (mkF m 43 #[.val (.long xa), .second, .val (.long xb), .second, .val (.long (tT xb)), .second, .val (.long xa), .second, .val (.int (cX xa xb)), .unset, .unset] [(.long (tT xb)), (.long ((tT xb) + (tT xb)))])) _
    refine st1 _ ?_
    show Steps p.tables e below (T1.setTop (mkF m 46 #[.val (.long xa), .second, .val (.long xb), .second, .val (.long (tT xb)), .second, .val (.long xa), .second, .val (.int (cX xa xb)), .unset, .unset] [(.int (exF ((tT xb) + (tT xb)) (tT xb)))])) _
    refine XS.istore X1.here hx rfl (hb hby at_46) rfl (l' := #[.val (.long xa), .second, .val (.long xb), .second, .val (.long (tT xb)), .second, .val (.long xa), .second, .val (.int (cX xa xb)), .val (.int (exF ((tT xb) + (tT xb)) (tT xb))), .unset]) rfl ?_
    show Steps p.tables e below (T1.setTop (mkF m 48 #[.val (.long xa), .second, .val (.long xb), .second, .val (.long (tT xb)), .second, .val (.long xa), .second, .val (.int (cX xa xb)), .val (.int (exF ((tT xb) + (tT xb)) (tT xb))), .unset] [])) _
    refine XS.lload X1.here hx rfl (hb hby at_48) rfl ?_
    show Steps p.tables e below (T1.setTop (mkF m 50 #[.val (.long xa), .second, .val (.long xb), .second, .val (.long (tT xb)), .second, .val (.long xa), .second, .val (.int (cX xa xb)), .val (.int (exF ((tT xb) + (tT xb)) (tT xb))), .unset] [(.long (tT xb))])) _
    refine XS.lload X1.here hx rfl (hb hby at_50) rfl ?_
    show Steps p.tables e below (T1.setTop (mkF m 52 #[.val (.long xa), .second, .val (.long xb), .second, .val (.long (tT xb)), .second, .val (.long xa), .second, .val (.int (cX xa xb)), .val (.int (exF ((tT xb) + (tT xb)) (tT xb))), .unset] [(.long (tT xb)), (.long (tT xb))])) _
    refine XS.ladd X1.here hx rfl (hb hby at_52) rfl ?_
    show Steps p.tables e below (T1.setTop (mkF m 53 #[.val (.long xa), .second, .val (.long xb), .second, .val (.long (tT xb)), .second, .val (.long xa), .second, .val (.int (cX xa xb)), .val (.int (exF ((tT xb) + (tT xb)) (tT xb))), .unset] [(.long ((tT xb) + (tT xb)))])) _
    refine XS.lconst X1.here hx rfl (hb hby at_53) ?_
    show Steps p.tables e below (T1.setTop (mkF m 54 #[.val (.long xa), .second, .val (.long xb), .second, .val (.long (tT xb)), .second, .val (.long xa), .second, .val (.int (cX xa xb)), .val (.int (exF ((tT xb) + (tT xb)) (tT xb))), .unset] [(.long (1 : Int64)), (.long ((tT xb) + (tT xb)))])) _
    refine XS.lsub X1.here hx rfl (hb hby at_54) rfl ?_
    show Steps p.tables e below (T1.setTop (mkF m 55 #[.val (.long xa), .second, .val (.long xb), .second, .val (.long (tT xb)), .second, .val (.long xa), .second, .val (.int (cX xa xb)), .val (.int (exF ((tT xb) + (tT xb)) (tT xb))), .unset] [(.long (((tT xb) + (tT xb)) - (1 : Int64)))])) _
    refine XS.lload X1.here hx rfl (hb hby at_55) rfl ?_
    show Steps p.tables e below (T1.setTop (mkF m 57 #[.val (.long xa), .second, .val (.long xb), .second, .val (.long (tT xb)), .second, .val (.long xa), .second, .val (.int (cX xa xb)), .val (.int (exF ((tT xb) + (tT xb)) (tT xb))), .unset] [(.long (tT xb)), (.long (((tT xb) + (tT xb)) - (1 : Int64)))])) _
    refine st2 _ ?_
    show Steps p.tables e below (T2.setTop (mkF m 60 #[.val (.long xa), .second, .val (.long xb), .second, .val (.long (tT xb)), .second, .val (.long xa), .second, .val (.int (cX xa xb)), .val (.int (exF ((tT xb) + (tT xb)) (tT xb))), .unset] [(.int (exF (((tT xb) + (tT xb)) - (1 : Int64)) (tT xb)))])) _
    refine XS.istore X2.here hx rfl (hb hby at_60) rfl (l' := #[.val (.long xa), .second, .val (.long xb), .second, .val (.long (tT xb)), .second, .val (.long xa), .second, .val (.int (cX xa xb)), .val (.int (exF ((tT xb) + (tT xb)) (tT xb))), .val (.int (exF (((tT xb) + (tT xb)) - (1 : Int64)) (tT xb)))]) rfl ?_
    show Steps p.tables e below (T2.setTop (mkF m 62 #[.val (.long xa), .second, .val (.long xb), .second, .val (.long (tT xb)), .second, .val (.long xa), .second, .val (.int (cX xa xb)), .val (.int (exF ((tT xb) + (tT xb)) (tT xb))), .val (.int (exF (((tT xb) + (tT xb)) - (1 : Int64)) (tT xb)))] [])) _
    refine XS.lload X2.here hx rfl (hb hby at_62) rfl ?_
    show Steps p.tables e below (T2.setTop (mkF m 64 #[.val (.long xa), .second, .val (.long xb), .second, .val (.long (tT xb)), .second, .val (.long xa), .second, .val (.int (cX xa xb)), .val (.int (exF ((tT xb) + (tT xb)) (tT xb))), .val (.int (exF (((tT xb) + (tT xb)) - (1 : Int64)) (tT xb)))] [(.long xa)])) _
    refine XS.lload X2.here hx rfl (hb hby at_64) rfl ?_
    show Steps p.tables e below (T2.setTop (mkF m 66 #[.val (.long xa), .second, .val (.long xb), .second, .val (.long (tT xb)), .second, .val (.long xa), .second, .val (.int (cX xa xb)), .val (.int (exF ((tT xb) + (tT xb)) (tT xb))), .val (.int (exF (((tT xb) + (tT xb)) - (1 : Int64)) (tT xb)))] [(.long (tT xb)), (.long xa)])) _
    refine st3 _ ?_
    show Steps p.tables e below (T3.setTop (mkF m 69 #[.val (.long xa), .second, .val (.long xb), .second, .val (.long (tT xb)), .second, .val (.long xa), .second, .val (.int (cX xa xb)), .val (.int (exF ((tT xb) + (tT xb)) (tT xb))), .val (.int (exF (((tT xb) + (tT xb)) - (1 : Int64)) (tT xb)))] [(.int (exF xa (tT xb)))])) _
    refine XS.iload X3.here hx rfl (hb hby at_69) rfl ?_
    show Steps p.tables e below (T3.setTop (mkF m 71 #[.val (.long xa), .second, .val (.long xb), .second, .val (.long (tT xb)), .second, .val (.long xa), .second, .val (.int (cX xa xb)), .val (.int (exF ((tT xb) + (tT xb)) (tT xb))), .val (.int (exF (((tT xb) + (tT xb)) - (1 : Int64)) (tT xb)))] [(.int (cX xa xb)), (.int (exF xa (tT xb)))])) _
    by_cases h71 : (exF xa (tT xb)) = (cX xa xb)
    · refine XS.icmpNo X3.here hx rfl (hb hby at_71) rfl (teq h71).2 ?_
      show Steps p.tables e below (T3.setTop (mkF m 74 #[.val (.long xa), .second, .val (.long xb), .second, .val (.long (tT xb)), .second, .val (.long xa), .second, .val (.int (cX xa xb)), .val (.int (exF ((tT xb) + (tT xb)) (tT xb))), .val (.int (exF (((tT xb) + (tT xb)) - (1 : Int64)) (tT xb)))] [])) _
      refine XS.iload X3.here hx rfl (hb hby at_74) rfl ?_
      show Steps p.tables e below (T3.setTop (mkF m 76 #[.val (.long xa), .second, .val (.long xb), .second, .val (.long (tT xb)), .second, .val (.long xa), .second, .val (.int (cX xa xb)), .val (.int (exF ((tT xb) + (tT xb)) (tT xb))), .val (.int (exF (((tT xb) + (tT xb)) - (1 : Int64)) (tT xb)))] [(.int (exF ((tT xb) + (tT xb)) (tT xb)))])) _
      by_cases h76 : (exF ((tT xb) + (tT xb)) (tT xb)) = (0 : Int32)
      · refine XS.ifYes X3.here hx rfl (pc0 := 76) (pc' := 88) rfl (hb hby at_76) rfl ((if0 _ _).trans (teq h76).1) (by decide) (by decide) ?_
        show Steps p.tables e below (T3.setTop (mkF m 88 #[.val (.long xa), .second, .val (.long xb), .second, .val (.long (tT xb)), .second, .val (.long xa), .second, .val (.int (cX xa xb)), .val (.int (exF ((tT xb) + (tT xb)) (tT xb))), .val (.int (exF (((tT xb) + (tT xb)) - (1 : Int64)) (tT xb)))] [])) _
        refine XS.iconst X3.here hx rfl (hb hby at_88) ?_
        show Steps p.tables e below (T3.setTop (mkF m 89 #[.val (.long xa), .second, .val (.long xb), .second, .val (.long (tT xb)), .second, .val (.long xa), .second, .val (.int (cX xa xb)), .val (.int (exF ((tT xb) + (tT xb)) (tT xb))), .val (.int (exF (((tT xb) + (tT xb)) - (1 : Int64)) (tT xb)))] [(.int (0 : Int32))])) _
        exact retN X3 hx (t := .boolean) Bd.returns (by simp) (hb hby at_89) (by rw [show nar .boolean (0 : Int32) = (lawF xa xb) from (own_nar0).trans (by simp only [lawF, h71, h76, eq_self, if_true, if_false])]; exact hr)
      · refine XS.ifNo X3.here hx rfl (hb hby at_76) rfl ((if0 _ _).trans (feq h76).1) ?_
        show Steps p.tables e below (T3.setTop (mkF m 79 #[.val (.long xa), .second, .val (.long xb), .second, .val (.long (tT xb)), .second, .val (.long xa), .second, .val (.int (cX xa xb)), .val (.int (exF ((tT xb) + (tT xb)) (tT xb))), .val (.int (exF (((tT xb) + (tT xb)) - (1 : Int64)) (tT xb)))] [])) _
        refine XS.iload X3.here hx rfl (hb hby at_79) rfl ?_
        show Steps p.tables e below (T3.setTop (mkF m 81 #[.val (.long xa), .second, .val (.long xb), .second, .val (.long (tT xb)), .second, .val (.long xa), .second, .val (.int (cX xa xb)), .val (.int (exF ((tT xb) + (tT xb)) (tT xb))), .val (.int (exF (((tT xb) + (tT xb)) - (1 : Int64)) (tT xb)))] [(.int (exF (((tT xb) + (tT xb)) - (1 : Int64)) (tT xb)))])) _
        by_cases h81 : (exF (((tT xb) + (tT xb)) - (1 : Int64)) (tT xb)) = (0 : Int32)
        · refine XS.ifNo X3.here hx rfl (hb hby at_81) rfl ((if0 _ _).trans (teq h81).2) ?_
          show Steps p.tables e below (T3.setTop (mkF m 84 #[.val (.long xa), .second, .val (.long xb), .second, .val (.long (tT xb)), .second, .val (.long xa), .second, .val (.int (cX xa xb)), .val (.int (exF ((tT xb) + (tT xb)) (tT xb))), .val (.int (exF (((tT xb) + (tT xb)) - (1 : Int64)) (tT xb)))] [])) _
          refine XS.iconst X3.here hx rfl (hb hby at_84) ?_
          show Steps p.tables e below (T3.setTop (mkF m 85 #[.val (.long xa), .second, .val (.long xb), .second, .val (.long (tT xb)), .second, .val (.long xa), .second, .val (.int (cX xa xb)), .val (.int (exF ((tT xb) + (tT xb)) (tT xb))), .val (.int (exF (((tT xb) + (tT xb)) - (1 : Int64)) (tT xb)))] [(.int (1 : Int32))])) _
          refine XS.goto X3.here hx rfl (pc0 := 85) (pc' := 89) rfl (hb hby at_85) (by decide) (by decide) ?_
          show Steps p.tables e below (T3.setTop (mkF m 89 #[.val (.long xa), .second, .val (.long xb), .second, .val (.long (tT xb)), .second, .val (.long xa), .second, .val (.int (cX xa xb)), .val (.int (exF ((tT xb) + (tT xb)) (tT xb))), .val (.int (exF (((tT xb) + (tT xb)) - (1 : Int64)) (tT xb)))] [(.int (1 : Int32))])) _
          exact retN X3 hx (t := .boolean) Bd.returns (by simp) (hb hby at_89) (by rw [show nar .boolean (1 : Int32) = (lawF xa xb) from (own_nar1).trans (by simp only [lawF, h71, h76, h81, eq_self, if_true, if_false])]; exact hr)
        · refine XS.ifYes X3.here hx rfl (pc0 := 81) (pc' := 88) rfl (hb hby at_81) rfl ((if0 _ _).trans (feq h81).2) (by decide) (by decide) ?_
          show Steps p.tables e below (T3.setTop (mkF m 88 #[.val (.long xa), .second, .val (.long xb), .second, .val (.long (tT xb)), .second, .val (.long xa), .second, .val (.int (cX xa xb)), .val (.int (exF ((tT xb) + (tT xb)) (tT xb))), .val (.int (exF (((tT xb) + (tT xb)) - (1 : Int64)) (tT xb)))] [])) _
          refine XS.iconst X3.here hx rfl (hb hby at_88) ?_
          show Steps p.tables e below (T3.setTop (mkF m 89 #[.val (.long xa), .second, .val (.long xb), .second, .val (.long (tT xb)), .second, .val (.long xa), .second, .val (.int (cX xa xb)), .val (.int (exF ((tT xb) + (tT xb)) (tT xb))), .val (.int (exF (((tT xb) + (tT xb)) - (1 : Int64)) (tT xb)))] [(.int (0 : Int32))])) _
          exact retN X3 hx (t := .boolean) Bd.returns (by simp) (hb hby at_89) (by rw [show nar .boolean (0 : Int32) = (lawF xa xb) from (own_nar0).trans (by simp only [lawF, h71, h76, h81, eq_self, if_true, if_false])]; exact hr)
    · refine XS.icmpYes X3.here hx rfl (pc0 := 71) (pc' := 88) rfl (hb hby at_71) rfl (feq h71).2 (by decide) (by decide) ?_
      show Steps p.tables e below (T3.setTop (mkF m 88 #[.val (.long xa), .second, .val (.long xb), .second, .val (.long (tT xb)), .second, .val (.long xa), .second, .val (.int (cX xa xb)), .val (.int (exF ((tT xb) + (tT xb)) (tT xb))), .val (.int (exF (((tT xb) + (tT xb)) - (1 : Int64)) (tT xb)))] [])) _
      refine XS.iconst X3.here hx rfl (hb hby at_88) ?_
      show Steps p.tables e below (T3.setTop (mkF m 89 #[.val (.long xa), .second, .val (.long xb), .second, .val (.long (tT xb)), .second, .val (.long xa), .second, .val (.int (cX xa xb)), .val (.int (exF ((tT xb) + (tT xb)) (tT xb))), .val (.int (exF (((tT xb) + (tT xb)) - (1 : Int64)) (tT xb)))] [(.int (0 : Int32))])) _
      exact retN X3 hx (t := .boolean) Bd.returns (by simp) (hb hby at_89) (by rw [show nar .boolean (0 : Int32) = (lawF xa xb) from (own_nar0).trans (by simp only [lawF, h71, eq_self, if_true, if_false])]; exact hr)
  · show Q_law Z xa xb h0 n0 _ T3.heap _
    exact ⟨rfl, N3, trivial⟩
set_option maxRecDepth 65536 in
set_option maxHeartbeats 40000000 in
theorem comes_1 {Post : Tables → Env → Array Value → State → Outcome → State → Prop} (hpost : ∀ tb e args s v u, (limb_1_1.after args s (.returned v) u = true ∧ limb_1_2.after args s (.returned v) u = true ∧ True) → FrameEnd s (.returned v) u (Jvm.fieldLocs frame_1_writes args s ++ Jvm.arrayLocs frame_1_arrays args s ++ Jvm.staticLocs frame_1_statics s) 0 0 → Post tb e args s (.returned v) u) :
    ArmFor flags0 classFile x code maxLocals ret World_1 tables_1 room_1 Calls_1 rest_1 Pre_1 Post := by
  intro l hfl _ _ p e ha hc hk s m args below hf hA hF happ hP
  obtain ⟨hcalls, hrest, hpre⟩ := hP
  obtain ⟨-, -, -, hnamed, -, -, -, hat⟩ := (Spec.applies_iff hf).mp happ
  obtain ⟨hg, hn⟩ := and_e (Cond.before_iff.mp (show (Jvm.Cond.and given_1 narrow_1).before args s = true from hpre))
  obtain ⟨gc, g0⟩ := and_e hg
  obtain ⟨k0, g1⟩ := and_e g0
  have k1 := g1
  obtain ⟨w0, w1, rfl⟩ : ∃ w0 w1 : Value, args = #[w0, w1] := by
    have hs : args.size = 2 := by simpa [Cond.value, given_1] using gc
    obtain ⟨L⟩ := args
    match L, hs with
    | [w0, w1], _ => exact ⟨w0, w1, rfl⟩
  have hw := fun d (hd : d ∈ tables_1) => atoms_spec (ws := Jvm.Cond.code x code maxLocals ret :: tables_1) hat d (List.mem_cons_of_mem _ hd)
  obtain ⟨i0, ei0⟩ := isL_v k0
  obtain rfl : w0 = (.long i0) := Option.some.inj ei0
  obtain ⟨i1, ei1⟩ := isL_v k1
  obtain rfl : w1 = (.long i1) := Option.some.inj ei1
  obtain ⟨n, o, h1, h2, h3, v, L, rfl, hQ, hq⟩ := rm_law l s _ hw tables_1 i0 i1 s.heap s.heap.size (Nat.le_refl _)  p e ha hc hk s m _ below hf ((Spec.applies_iff_loose hf).mp happ).1 ⟨rfl, State.Warmed39.refl s, rfl⟩ trivial
  have hv : v = some (.int 1) := hQ.1.trans (by rw [lawF_one])
  subst hv
  have N := hQ.2.1
  refine ⟨n, _, h1, h2, h3, hpost _ _ _ _ _ _ ⟨Cond.after_iff.mpr rfl, Cond.after_iff.mpr (eq_i res_at (Term.int_eval (1)) rfl), trivial⟩ ⟨hq.1, hq.2.1, (hq.2.2.sift fun y hy => Or.inr (N y hy)).mono (by decide) (by decide)⟩⟩
theorem main_1_1 : Claimed_1_1 := comes_1 fun _ _ _ _ _ _ h hF => ⟨h.1, hF⟩
theorem main_1_2 : Claimed_1_2 := comes_1 fun _ _ _ _ _ _ h hF => ⟨h.2.1, hF⟩
end Jvm.Pilot.@@N@@
namespace Jvm.Pilot.@@N@@
open Jvm Jvm.ClassFile Sem Op Lib Jvm.Free Jvm.Stand Jvm.Pilot.@@N@@.Jvm.D
/-! MADE BY PROGRAM (witnessworld.py) out of the Statement's table words and the real class files: 9 classes; the members and pool entries that the words name. The judged class is class 1, her method 1. -/
namespace start1
open Jvm.ClassFile
def u (s : String) : CpInfo := .utf8 (stringToUtf16 s)
/-- a pool by its gaps: so many unusable entries, then the entry; so many at the end -/
def gap : Nat → List CpInfo → List CpInfo
  | 0, r => r
  | n + 1, r => .unusable :: gap n r
def poolList (es : List (Nat × CpInfo)) (last : Nat) : List CpInfo := es.foldr (fun e r => gap e.1 (e.2 :: r)) (gap last [])
def pool (es : List (Nat × CpInfo)) (last : Nat) : Array CpInfo := ⟨poolList es last⟩
def fileOf (pool : Array CpInfo) (this : Nat) (attrs : Array Attribute := #[]) (ms : Array MethodInfo := #[]) (fl : Nat := 33) (sup : Nat := 0) (ifs : Array Nat := #[]) (fds : Array FieldInfo := #[]) : ClassFile where
  minorVersion := 0
  majorVersion := 65
  constantPool := pool
  accessFlags := fl
  thisClass := this
  superClass := sup
  interfaces := ifs
  fields := fds
  methods := ms
  attributes := attrs
def plain (name : String) (sup : Option ClassId) : Class where
  name := name
  kind := .ordinary
  loader := none
  accessFlags := 33
  super := sup
  interfaces := #[]
  cf := none
  fields := #[]
  methods := #[]
  instanceTypes := #[]
  staticTypes := #[]
  resolved := #[]
  callSites := []
  init := .initialized
  statics := none
  mirror := none

def pool0 : Array CpInfo := pool [(5, u "<init>"), (0, u "()V"), (1, .class_ 10), (1, u "java/lang/Object")] 113

def k0m0 : Method := { name := "<init>", desc := "()V", sig := { parameters := [], returnType := none }, accessFlags := 1, code := none }
/-- java/lang/Object -/
def k0 : Class := { plain "java/lang/Object" none with
  accessFlags := 33
  interfaces := #[]
  cf := some (fileOf pool0 8 #[] #[{ accessFlags := 1, nameIndex := 5, descriptorIndex := 6, attributes := #[] }] 33 0 #[] #[])
  fields := #[]
  methods := #[k0m0]
  instanceTypes := #[]
  staticTypes := #[]
  resolved := Array.replicate 124 none
  statics := none }

def pool1 : Array CpInfo := pool [(2, .class_ 4), (1, u "java/lang/Object"), (0, u "<init>"), (0, u "()V"), (0, .long 4611686018427387903), (1, .methodref 10 11), (0, .class_ 12), (0, .nameAndType 13 14), (0, u "com/example/inpuzz/inpuzz/StepWatch"), (0, u "exhausted"), (0, u "(JJ)Z"), (0, .class_ 16), (0, u "com/example/inpuzz/inpuzz/StepWatchExhaustedPinLaw"), (2, u "law")] 3

def k1m0 : Method := { name := "<init>", desc := "()V", sig := { parameters := [], returnType := none }, accessFlags := 1, code := none }
def k1c1 : Code := { maxStack := 4, maxLocals := 11, code := code, exceptionTable := #[], attributes := #[] }
def k1m1 : Method := { name := "law", desc := "(JJ)Z", sig := { parameters := [.long, .long], returnType := some .boolean }, accessFlags := 9, code := some k1c1 }
/-- com/example/inpuzz/inpuzz/StepWatchExhaustedPinLaw -/
def k1 : Class := { plain "com/example/inpuzz/inpuzz/StepWatchExhaustedPinLaw" (some 0) with
  accessFlags := 49
  interfaces := #[]
  cf := some (fileOf pool1 15 #[] #[{ accessFlags := 1, nameIndex := 5, descriptorIndex := 6, attributes := #[] }, { accessFlags := 9, nameIndex := 19, descriptorIndex := 14, attributes := #[] }] 49 2 #[] #[])
  fields := #[]
  methods := #[k1m0, k1m1]
  instanceTypes := #[]
  staticTypes := #[]
  resolved := Array.replicate 23 none
  statics := none }

def pool2 : Array CpInfo := pool [(2, .class_ 4), (1, u "java/lang/Object"), (3, .class_ 10), (1, u "com/example/inpuzz/inpuzz/StepWatch"), (0, u "progress"), (0, u "Lcom/example/inpuzz/inpuzz/Progress;"), (2, u "callTimeoutNanos"), (0, u "J"), (6, .long 2), (3, u "runningNanos"), (2, u "markedAt"), (10, u "tick"), (3, u "I"), (2, u "marks"), (4, u "position"), (3, u "Lcom/example/inpuzz/inpuzz/Progress$Position;"), (6, u "idleFound"), (0, u "Lcom/example/inpuzz/inpuzz/Progress$Look;"), (10, u "exhausted"), (0, u "(JJ)Z"), (11, .class_ 90), (0, u "com/example/inpuzz/inpuzz/StepWatch$Broken"), (3, u "COLLECTING_TIMEOUTS"), (1, u "UNMARKED_TIMEOUTS")] 14

def k2c0 : Code := { maxStack := 6, maxLocals := 4, code := prog_59_method_4_code, exceptionTable := #[], attributes := #[] }
def k2m0 : Method := { name := "exhausted", desc := "(JJ)Z", sig := { parameters := [.long, .long], returnType := some .boolean }, accessFlags := 8, code := some k2c0 }
/-- com/example/inpuzz/inpuzz/StepWatch -/
def k2 : Class := { plain "com/example/inpuzz/inpuzz/StepWatch" (some 0) with
  accessFlags := 48
  interfaces := #[]
  cf := some (fileOf pool2 8 #[.nestMembers #[89]] #[{ accessFlags := 8, nameIndex := 76, descriptorIndex := 77, attributes := #[] }] 48 2 #[] #[{ accessFlags := 26, nameIndex := 94, descriptorIndex := 16, attributes := #[] }, { accessFlags := 24, nameIndex := 96, descriptorIndex := 16, attributes := #[] }, { accessFlags := 18, nameIndex := 11, descriptorIndex := 12, attributes := #[] }, { accessFlags := 18, nameIndex := 15, descriptorIndex := 16, attributes := #[] }, { accessFlags := 18, nameIndex := 27, descriptorIndex := 16, attributes := #[] }, { accessFlags := 2, nameIndex := 41, descriptorIndex := 45, attributes := #[] }, { accessFlags := 2, nameIndex := 48, descriptorIndex := 45, attributes := #[] }, { accessFlags := 2, nameIndex := 53, descriptorIndex := 57, attributes := #[] }, { accessFlags := 2, nameIndex := 30, descriptorIndex := 16, attributes := #[] }, { accessFlags := 2, nameIndex := 64, descriptorIndex := 65, attributes := #[] }])
  fields := #[{ name := "COLLECTING_TIMEOUTS", type := .long, accessFlags := 26, slot := 0, constantValue := 0 }, { name := "UNMARKED_TIMEOUTS", type := .long, accessFlags := 24, slot := 1, constantValue := 0 }, { name := "progress", type := (.object "com/example/inpuzz/inpuzz/Progress"), accessFlags := 18, slot := 0, constantValue := 0 }, { name := "callTimeoutNanos", type := .long, accessFlags := 18, slot := 1, constantValue := 0 }, { name := "runningNanos", type := .long, accessFlags := 18, slot := 2, constantValue := 0 }, { name := "tick", type := .int, accessFlags := 2, slot := 3, constantValue := 0 }, { name := "marks", type := .int, accessFlags := 2, slot := 4, constantValue := 0 }, { name := "position", type := (.object "com/example/inpuzz/inpuzz/Progress$Position"), accessFlags := 2, slot := 5, constantValue := 0 }, { name := "markedAt", type := .long, accessFlags := 2, slot := 6, constantValue := 0 }, { name := "idleFound", type := (.object "com/example/inpuzz/inpuzz/Progress$Look"), accessFlags := 2, slot := 7, constantValue := 0 }]
  methods := #[k2m0]
  instanceTypes := #[(.object "com/example/inpuzz/inpuzz/Progress"), .long, .long, .int, .int, (.object "com/example/inpuzz/inpuzz/Progress$Position"), .long, (.object "com/example/inpuzz/inpuzz/Progress$Look")]
  staticTypes := #[.long, .long]
  resolved := Array.replicate 111 none
  statics := none }

def pool3 : Array CpInfo := pool [(1, u "java/lang/Cloneable"), (0, .class_ 1), (0, u "java/lang/Object"), (0, .class_ 3)] 3

/-- java/lang/Cloneable -/
def k3 : Class := { plain "java/lang/Cloneable" (some 0) with
  accessFlags := 1537
  interfaces := #[]
  cf := some (fileOf pool3 2 #[] #[] 1537 4 #[] #[])
  fields := #[]
  methods := #[]
  instanceTypes := #[]
  staticTypes := #[]
  resolved := Array.replicate 8 none
  statics := none }

def pool4 : Array CpInfo := pool [(1, u "java/io/Serializable"), (0, .class_ 1), (0, u "java/lang/Object"), (0, .class_ 3)] 3

/-- java/io/Serializable -/
def k4 : Class := { plain "java/io/Serializable" (some 0) with
  accessFlags := 1537
  interfaces := #[]
  cf := some (fileOf pool4 2 #[] #[] 1537 4 #[] #[])
  fields := #[]
  methods := #[]
  instanceTypes := #[]
  staticTypes := #[]
  resolved := Array.replicate 8 none
  statics := none }

/-- the primitive byte -/
def k5 : Class := { plain "byte" none with kind := .primitive 'B', accessFlags := 0x411 }
/-- [B -/
def k6 : Class := { plain "[B" (some 0) with kind := .array 5 .byte, interfaces := #[3, 4], accessFlags := 1041 }

/-- the primitive int -/
def k7 : Class := { plain "int" none with kind := .primitive 'I', accessFlags := 0x411 }
/-- [I -/
def k8 : Class := { plain "[I" (some 0) with kind := .array 7 .int, interfaces := #[3, 4], accessFlags := 1041 }

def heap : Heap := #[]
def classes : Array Class := #[k0, k1, k2, k3, k4, k5, k6, k7, k8]
def interned : List (Array UInt16 × Addr) := []
def slotsUsed : Nat := 0
def theMethod : MethodId := ⟨1, 1⟩
def args0 : Array Value := #[.long 5, .long 300]
def aboutOver (below : List Frame) : State where
  vm := { classes := classes, interned := interned.toArray }
  heap := heap
  slotsUsed := slotsUsed
  threads := #[{ frames := .invoking theMethod args0 :: below }]
def below0 : List Frame := [.native { method := ⟨0, 0⟩, args := #[] }]
def about1 : State := aboutOver below0
def p0 : Program := .bare "" "" ""
def e0 : Env := launch0.env 0 0 0
theorem w_frames : about1.frames = Frame.invoking theMethod args0 :: below0 := rfl
set_option maxRecDepth 65536 in
theorem w_args : argsFit about1.vm theMethod args0 = true := by decide +kernel
set_option maxRecDepth 65536 in
theorem w_heap : heapFits about1 = true := by decide +kernel
set_option maxRecDepth 65536 in
theorem w_runnable : about1.curStatus? = some .runnable := by decide +kernel
set_option maxRecDepth 65536 in
theorem w_alone : about1.alone = true := by decide +kernel
set_option maxRecDepth 65536 in
theorem w_named : about1.methodNamed? x = some theMethod := by decide +kernel
set_option maxRecDepth 65536 in
theorem w_hears : about1.hears theMethod below0 = true := by decide +kernel
set_option maxRecDepth 65536 in
theorem w_ripe : about1.ripe theMethod args0 below0 = true := by decide +kernel
theorem w_running : about1.status = .running := rfl
set_option maxRecDepth 65536 in
theorem w_room : about1.hasRoom e0.platform room_1 = true :=
  launch0.hasRoom_least _ room_1 (by decide +kernel) (by decide +kernel) (by decide +kernel) (by decide +kernel) (by decide +kernel) (by decide +kernel)
theorem allAtoms_all (ts : List Jvm.Cond) (a : Array Jvm.Value) (st : Jvm.State) : (allAtoms ts).before a st = ts.all (fun c => c.before a st) := by
  induction ts with
  | nil => rfl
  | cons c t ih =>
    show (Jvm.Cond.and c (allAtoms t)).before a st = _
    rw [Jvm.Cond.before_and, ih, List.all_cons]
def words1 : List Jvm.Cond := Jvm.Cond.code x code maxLocals ret :: tables_1
/-- a 'code' word, met by the world's own term for the bytes: nothing is compared byte by byte -/
theorem code_word {y : MethodName} {bytes : ByteArray} {mx : Nat} {rt : Option FieldType} {a : Array Value} {s : State} {m : MethodId} {meth : Method} {c : Code} (h1 : s.methodNamed? y = some m) (h2 : s.vm.method? m = some meth) (h3 : meth.code = some c) (h4 : c.code = bytes)
    (h5 : (c.maxLocals == mx && c.exceptionTable.isEmpty && decide (c.maxStack ≤ mostOperands) && decide (meth.sig.returnType = rt) && !meth.locks && decide (parseMethodDescriptor y.desc = some meth.sig)) = true) : (Jvm.Cond.code y bytes mx rt).before a s = true := by
  simp only [Bool.and_eq_true, beq_iff_eq, Bool.not_eq_true', decide_eq_true_eq] at h5
  obtain ⟨⟨⟨⟨⟨g1, g2⟩, g3⟩, g4⟩, g5⟩, g6⟩ := h5
  simp [Cond.before, Cond.holds, Cond.value, h1, h2, h3, h4, g1, g2, g3, g4, g5, g6]
def isCode : Jvm.Cond → Bool
  | .code _ _ _ _ => true
  | _ => false
theorem all_split {L : List Jvm.Cond} {P : Jvm.Cond → Bool} (h1 : L.all (fun c => isCode c || P c) = true) (h2 : ∀ c ∈ L.filter isCode, P c = true) : L.all P = true := by
  refine List.all_eq_true.mpr fun c hc => ?_
  have h := List.all_eq_true.mp h1 c hc
  rcases Bool.eq_false_or_eq_true (isCode c) with hi | hi
  · exact h2 c (List.mem_filter.mpr ⟨hc, hi⟩)
  · simpa [hi] using h
set_option maxRecDepth 65536 in
theorem w_c0 : (Jvm.Cond.code x code maxLocals ret).before args0 about1 = true := code_word (m := ⟨1, 1⟩) (meth := k1m1) (c := k1c1) (by decide +kernel) rfl rfl rfl (by decide +kernel)
set_option maxRecDepth 65536 in
theorem w_c1 : (Jvm.Cond.code ({ cls := "com/example/inpuzz/inpuzz/StepWatch", name := "exhausted", desc := "(JJ)Z" } : Jvm.MethodName) prog_59_method_4_code (4 : Nat) (Option.some Jvm.ClassFile.FieldType.boolean)).before args0 about1 = true := code_word (m := ⟨2, 0⟩) (meth := k2m0) (c := k2c0) (by decide +kernel) rfl rfl rfl (by decide +kernel)
def codes1 : List Jvm.Cond := [Jvm.Cond.code x code maxLocals ret, Jvm.Cond.code ({ cls := "com/example/inpuzz/inpuzz/StepWatch", name := "exhausted", desc := "(JJ)Z" } : Jvm.MethodName) prog_59_method_4_code (4 : Nat) (Option.some Jvm.ClassFile.FieldType.boolean)]
set_option maxRecDepth 65536 in
theorem codes_eq : words1.filter isCode = codes1 := rfl
theorem w_codes : ∀ c ∈ words1.filter isCode, c.before args0 about1 = true := by
  rw [codes_eq]
  intro c hc
  simp only [codes1, List.mem_cons, List.not_mem_nil, or_false] at hc
  rcases hc with rfl | rfl
  · exact w_c0
  · exact w_c1
set_option maxRecDepth 65536 in
theorem w_t1 : words1.all (fun c => isCode c || c.before args0 about1) = true := by decide +kernel
theorem w_tables : (allAtoms (Jvm.Cond.code x code maxLocals ret :: tables_1)).before args0 about1 = true := by
  rw [allAtoms_all]
  show words1.all (fun c => c.before args0 about1) = true
  refine all_split ?_ w_codes
  rw [w_t1]
set_option maxRecDepth 65536 in
theorem w_case : (Jvm.Cond.and given_1 narrow_1).before args0 about1 = true := by decide +kernel
theorem w_applies : (headSpec (Jvm.Cond.code x code maxLocals ret :: tables_1) room_1).applies x e0.platform about1 = true :=
  (Spec.applies_iff w_frames).mpr ⟨w_running, w_runnable, w_alone, w_named, w_hears, w_ripe, w_room, w_tables⟩
theorem atStart : AtStart classFile x code maxLocals ret World_1 tables_1 room_1 Calls_1 rest_1 Pre_1 launch0 p0 e0 about1 theMethod args0 below0 :=
  ⟨lists_1, trivial, launch0.admits_env _ _ _, launch0.least_env, fairChoices_fair.cas, fairChoices_fair.clock, w_frames, w_args, w_heap, w_applies, trivial, trivial, w_case⟩
end start1
theorem witness_1 : WitnessClaimed_1 := ⟨start1.p0, start1.e0, start1.about1, start1.theMethod, start1.args0, start1.below0, start1.atStart⟩
end Jvm.Pilot.@@N@@
