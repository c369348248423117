import JvmDerived
import JvmDerived.Pilot.@@N@@Statement
import JvmDerived.Pilot.@@N@@Code
set_option linter.unusedVariables false
set_option linter.unusedSimpArgs false
namespace Jvm.RoadKit
open Sem ClassFile Op Lib Jvm.Stand Jvm.Free Jvm.LawKit
section New
variable {p : Program} {l : Launch} {e : Env} {R : Room} {s : State} {m : MethodId} {args : Array Value} {below : List Frame} {meth : Method} {c : Code} {T : State} {locs : List Loc} {cells slots : Nat}
theorem retI (X : Stand p l e R s m args below meth c T locs cells slots) (hx : p.tables.exec = Jvm.exec) {pc : Nat} {Ls : Array Slot} {z : Int32} {rest : List Value} (hret : meth.sig.returnType = some .int) (hd : decode c.code pc = .ok (.ireturn, 1)) {fs : List Frame}
    (hl : ∀ (f : JFrame) (acts : List Action), f.method = m → f.locked = none → f.entered = [] → (doReturn e (T.setTop f) acts (some (.int z))).1 = T.setFrames fs) : Steps p.tables e below (T.setTop (mkF m pc Ls (.int z :: rest))) (T.setFrames fs) := by
  have hm' : T.vm.method? m = some meth := X.method'
  have hn : narrow .int (.int z) = .int z := rfl
  show Steps p.tables e below (T.setTop { method := m, pc := pc, locals := Ls, stack := _ :: rest, locked := none }) _
  jvm_step X.here [X.here.top, hx, hd, hm', hret, hn]
  first | (intro acts; rw [hl _ acts rfl rfl rfl]) | rw [hl _ _ rfl rfl rfl]
  exact Steps.refl _
end New
end Jvm.RoadKit
namespace Jvm.Pilot.@@N@@
open Jvm Jvm.ClassFile Sem Op Lib Jvm.Free Jvm.Stand Jvm.LawKit Jvm.RoadKit Bundle Jvm.Pilot.@@N@@.Jvm.D
theorem own_nar0 : nar .boolean (0 : Int32) = (0 : Int32) := rfl
theorem own_nar1 : nar .boolean (1 : Int32) = (1 : Int32) := rfl
def zeroF (a b : Int64) : Int32 := if a = 0 then (if b = 0 then 1 else 0) else 0
def atF (w : Int32) : Int32 := (w &&& (2147483647 : Int32)) - ((w &&& (2147483647 : Int32)) / (3 : Int32)) * (3 : Int32)
def hF (h : Int64) (f : Int32) : Int64 := if (f &&& (1 : Int32)) = 0 then h else 0
def lF (l : Int64) (f : Int32) : Int64 := if (f &&& (2 : Int32)) = 0 then l &&& (9223372036854775807 : Int64) else 0
def n1F (o : Int64) (f : Int32) : Int64 := if (f &&& (4 : Int32)) = 0 then o else 0
def n2F (o : Int64) (f : Int32) : Int64 := if (f &&& (8 : Int32)) = 0 then o &&& (9223372036854775807 : Int64) else 0
def lawF (h l : Int64) (f : Int32) : Int32 := if zeroF (hF h f) (lF l f) = zeroF (hF h f) (lF l f) then 1 else 0
theorem lawF_one (h l : Int64) (f : Int32) : lawF h l f = 1 := if_pos rfl
theorem at3 (w : Int32) : atF w = 0 ∨ atF w = 1 ∨ atF w = 2 := by
  have h : (w &&& (2147483647 : Int32)).toInt = w.toInt % (2 ^ 31 : Nat) := c_mask w _ 31 (by decide) (by decide)
  have e : atF w = (w &&& (2147483647 : Int32)) % 3 := irem_eq_mod _ _
  have a := (c_irem (w &&& (2147483647 : Int32)) 3 3 rfl).1 (by omega)
  rw [← e] at a
  have q : (atF w).toInt = 0 ∨ (atF w).toInt = 1 ∨ (atF w).toInt = 2 := by omega
  rcases q with q | q | q
  · exact Or.inl (Int32.toInt_inj.mp q)
  · exact Or.inr (Or.inl (Int32.toInt_inj.mp q))
  · exact Or.inr (Or.inr (Int32.toInt_inj.mp q))
theorem ix0 (w : Int32) : ¬ ((2 : Int32) * atF w) < 0 ∧ ((2 : Int32) * atF w) < 6 := by rcases at3 w with q | q | q <;> rw [q] <;> decide
theorem ix1 (w : Int32) : ¬ (((2 : Int32) * atF w) + (1 : Int32)) < 0 ∧ (((2 : Int32) * atF w) + (1 : Int32)) < 6 := by rcases at3 w with q | q | q <;> rw [q] <;> decide
theorem il0 (w : Int32) : ((2 : Int32) * atF w).toNatClampNeg < 6 := by rcases at3 w with q | q | q <;> rw [q] <;> decide
theorem il1 (w : Int32) : (((2 : Int32) * atF w) + (1 : Int32)).toNatClampNeg < 6 := by rcases at3 w with q | q | q <;> rw [q] <;> decide
theorem get0 (w : Int32) (x0 x1 x2 x3 x4 x5 y0 y1 d : Value) : ((([x0, x1, x2, x3, x4, x5].set ((2 : Int32) * atF w).toNatClampNeg y0).set (((2 : Int32) * atF w) + (1 : Int32)).toNatClampNeg y1).getD ((2 : Int32) * atF w).toNatClampNeg d) = y0 := by rcases at3 w with q | q | q <;> rw [q] <;> rfl
theorem get1 (w : Int32) (x0 x1 x2 x3 x4 x5 y0 y1 d : Value) : ((([x0, x1, x2, x3, x4, x5].set ((2 : Int32) * atF w).toNatClampNeg y0).set (((2 : Int32) * atF w) + (1 : Int32)).toNatClampNeg y1).getD (((2 : Int32) * atF w) + (1 : Int32)).toNatClampNeg d) = y1 := by rcases at3 w with q | q | q <;> rw [q] <;> rfl
theorem d_prog_5_method_12_0 : decode prog_5_method_12_code 0 = .ok (.aload_n 0, 1) := by decide +kernel
theorem d_prog_5_method_12_1 : decode prog_5_method_12_code 1 = .ok (.iconst 2, 1) := by decide +kernel
theorem d_prog_5_method_12_2 : decode prog_5_method_12_code 2 = .ok (.iload_n 1, 1) := by decide +kernel
theorem d_prog_5_method_12_3 : decode prog_5_method_12_code 3 = .ok (.imul, 1) := by decide +kernel
theorem d_prog_5_method_12_4 : decode prog_5_method_12_code 4 = .ok (.laload, 1) := by decide +kernel
theorem d_prog_5_method_12_5 : decode prog_5_method_12_code 5 = .ok (.lconst 0, 1) := by decide +kernel
theorem d_prog_5_method_12_6 : decode prog_5_method_12_code 6 = .ok (.lcmp, 1) := by decide +kernel
theorem d_prog_5_method_12_7 : decode prog_5_method_12_code 7 = .ok (.ifCond .ne 19, 3) := by decide +kernel
theorem d_prog_5_method_12_10 : decode prog_5_method_12_code 10 = .ok (.aload_n 0, 1) := by decide +kernel
theorem d_prog_5_method_12_11 : decode prog_5_method_12_code 11 = .ok (.iconst 2, 1) := by decide +kernel
theorem d_prog_5_method_12_12 : decode prog_5_method_12_code 12 = .ok (.iload_n 1, 1) := by decide +kernel
theorem d_prog_5_method_12_13 : decode prog_5_method_12_code 13 = .ok (.imul, 1) := by decide +kernel
theorem d_prog_5_method_12_14 : decode prog_5_method_12_code 14 = .ok (.iconst 1, 1) := by decide +kernel
theorem d_prog_5_method_12_15 : decode prog_5_method_12_code 15 = .ok (.iadd, 1) := by decide +kernel
theorem d_prog_5_method_12_16 : decode prog_5_method_12_code 16 = .ok (.laload, 1) := by decide +kernel
theorem d_prog_5_method_12_17 : decode prog_5_method_12_code 17 = .ok (.lconst 0, 1) := by decide +kernel
theorem d_prog_5_method_12_18 : decode prog_5_method_12_code 18 = .ok (.lcmp, 1) := by decide +kernel
theorem d_prog_5_method_12_19 : decode prog_5_method_12_code 19 = .ok (.ifCond .ne 7, 3) := by decide +kernel
theorem d_prog_5_method_12_22 : decode prog_5_method_12_code 22 = .ok (.iconst 1, 1) := by decide +kernel
theorem d_prog_5_method_12_23 : decode prog_5_method_12_code 23 = .ok (.goto 4, 3) := by decide +kernel
theorem d_prog_5_method_12_26 : decode prog_5_method_12_code 26 = .ok (.iconst 0, 1) := by decide +kernel
theorem d_prog_5_method_12_27 : decode prog_5_method_12_code 27 = .ok (.ireturn, 1) := by decide +kernel
theorem pn_0 : plainName "com/example/servloom/servloom/compose/Amount" = true := by first | (simp [plainName, overriddenIn]; done) | decide +kernel
theorem ef_zero (m : MethodId) (xa : Addr) (xi : Int32) : entryFrame m #[(.ref xa), (.int xi)] 2 = mkF m 0 #[.val (.ref xa), .val (.int xi)] [] := by first | (simp [entryFrame, mkF, argsToLocals, Value.category]; done) | rfl
def Q_zero (Z : State) (xa : Addr) (xi : Int32) (cl : Cell) (y0 : Int64) (y1 : Int64) (h0 : Heap) (n0 : Nat) (v : Option Value) (h : Heap) (L : List Loc) : Prop := v = some (.int (zeroF y0 y1)) ∧ Fr n0 L ∧ h = h0
set_option maxRecDepth 65536 in
set_option maxHeartbeats 40000000 in
theorem rm_zero (l : Launch) (Z : State) (a0 : Array Value) (hw : ∀ d ∈ tables_1, d.before a0 Z = true) (ws : List Jvm.Cond) (xa : Addr) (xi : Int32) (cl : Cell) (y0 : Int64) (y1 : Int64) (h0 : Heap) (n0 : Nat) (Z0 : n0 ≤ h0.size) (Ar : Arr Z h0 xa cl .long) (hi0 : ¬ (((2 : Int32) * xi) < 0 ∨ cl.slots.size ≤ (((2 : Int32) * xi)).toNatClampNeg)) (ha0 : cl.slots[(((2 : Int32) * xi)).toNatClampNeg]? = some (.long y0)) (hi1 : ¬ ((((2 : Int32) * xi) + (1 : Int32)) < 0 ∨ cl.slots.size ≤ ((((2 : Int32) * xi) + (1 : Int32))).toNatClampNeg)) (ha1 : cl.slots[((((2 : Int32) * xi) + (1 : Int32))).toNatClampNeg]? = some (.long y1)) :
    MetFree l (⟨"com/example/servloom/servloom/compose/Amount", "zero", "([JI)Z"⟩ : MethodName) (head1 (Jvm.Cond.code (⟨"com/example/servloom/servloom/compose/Amount", "zero", "([JI)Z"⟩ : MethodName) prog_5_method_12_code 2 (some .boolean) :: ws) ({ frames := 0, cells := 0, slots := 0, locals := 0 } : Room)) (fun a U => a = #[(.ref xa), (.int xi)] ∧ Z.Warmed39 U.vm ∧ U.heap = h0) (fun _ _ _ _ _ => True) (fun _ U o U' => ∃ v L, o = .returned v ∧ Q_zero Z xa xi cl y0 y1 h0 n0 v U'.heap L ∧ FrameEnd U o U' L ({ frames := 0, cells := 0, slots := 0, locals := 0 } : Room).cells ({ frames := 0, cells := 0, slots := 0, locals := 0 } : Room).slots) := by
  refine MetFree.of_bodySF (plainFor_of_name pn_0) hisR ?_
  intro p e s m args below meth c s₁ Bd hml0 hP hK
  obtain ⟨rfl, hZ, hh⟩ := hP
  have hx := Bd.exec
  have hby := Bd.bytes
  have hml : c.maxLocals = 2 := hml0
  have hown : s.vm.findClass "com/example/servloom/servloom/compose/Amount" = some m.cls := findClass_of_methodNamed Bd.named
  have X0 : Stand p l e ({ frames := 0, cells := 0, slots := 0, locals := 0 } : Room) s m #[(.ref xa), (.int xi)] below meth c s₁ [] 0 0 := Stand.of_body Bd
  have e0 : s₁.heap = h0 := by rw [← hh, Bd.state]; rfl
  have N0 := Fr.nil n0
  have pre0 : ∀ t, Steps p.tables e below (s₁.setTop (mkF m 0 #[.val (.ref xa), .val (.int xi)] [])) t → Steps p.tables e below (s₁.setTop (entryFrame m #[(.ref xa), (.int xi)] 2)) t := fun t k => castTop (ef_zero m xa xi) k
  obtain ⟨fs, hr, hrun, hended, hW, hsame⟩ := X0.leave (v := some (.int (zeroF y0 y1))) (fun h => by rw [Bd.returns] at h; cases h)
  refine ⟨_, _, pre0 _ ?_, hrun, hended, _, _, rfl, ?_, ⟨_, rfl⟩, hW, hsame.mono (by decide) (by decide)⟩
  · show Steps p.tables e below (s₁.setTop (mkF m 0 #[.val (.ref xa), .val (.int xi)] [])) _
    refine XS.aloadN X0.here hx rfl (hb hby d_prog_5_method_12_0) rfl rfl ?_
    show Steps p.tables e below (s₁.setTop (mkF m 1 #[.val (.ref xa), .val (.int xi)] [(.ref xa)])) _
    refine XS.iconst X0.here hx rfl (hb hby d_prog_5_method_12_1) ?_
    show Steps p.tables e below (s₁.setTop (mkF m 2 #[.val (.ref xa), .val (.int xi)] [(.int (2 : Int32)), (.ref xa)])) _
    refine XS.iloadN X0.here hx rfl (hb hby d_prog_5_method_12_2) rfl ?_
    show Steps p.tables e below (s₁.setTop (mkF m 3 #[.val (.ref xa), .val (.int xi)] [(.int xi), (.int (2 : Int32)), (.ref xa)])) _
    refine XS.imul X0.here hx rfl (hb hby d_prog_5_method_12_3) rfl ?_
    show Steps p.tables e below (s₁.setTop (mkF m 4 #[.val (.ref xa), .val (.int xi)] [(.int ((2 : Int32) * xi)), (.ref xa)])) _
    refine X0.laload hx (j := ((2 : Int32) * xi)) (v := (.long y0)) (by rw [e0]; exact Ar.1) (State.isArrayOf_alike hZ.alike Ar.2.1) Ar.2.2 hi0 ha0 (g := (mkF m 4 #[.val (.ref xa), .val (.int xi)] [(.int ((2 : Int32) * xi)), (.ref xa)])) rfl rfl (hb hby d_prog_5_method_12_4) _ ?_
    show Steps p.tables e below (s₁.setTop (mkF m 5 #[.val (.ref xa), .val (.int xi)] [(.long y0)])) _
    refine XS.lconst X0.here hx rfl (hb hby d_prog_5_method_12_5) ?_
    show Steps p.tables e below (s₁.setTop (mkF m 6 #[.val (.ref xa), .val (.int xi)] [(.long (0 : Int64)), (.long y0)])) _
    refine XS.lcmp X0.here hx rfl (hb hby d_prog_5_method_12_6) rfl ?_
    show Steps p.tables e below (s₁.setTop (mkF m 7 #[.val (.ref xa), .val (.int xi)] [(.int (lcmpW y0 (0 : Int64)))])) _
    by_cases h7 : y0 = (0 : Int64)
    · refine XS.ifNo X0.here hx rfl (hb hby d_prog_5_method_12_7) rfl ((if0 _ _).trans (teq ((lw_eq _ _).2 h7)).2) ?_
      show Steps p.tables e below (s₁.setTop (mkF m 10 #[.val (.ref xa), .val (.int xi)] [])) _
      refine XS.aloadN X0.here hx rfl (hb hby d_prog_5_method_12_10) rfl rfl ?_
      show Steps p.tables e below (s₁.setTop (mkF m 11 #[.val (.ref xa), .val (.int xi)] [(.ref xa)])) _
      refine XS.iconst X0.here hx rfl (hb hby d_prog_5_method_12_11) ?_
      show Steps p.tables e below (s₁.setTop (mkF m 12 #[.val (.ref xa), .val (.int xi)] [(.int (2 : Int32)), (.ref xa)])) _
      refine XS.iloadN X0.here hx rfl (hb hby d_prog_5_method_12_12) rfl ?_
      show Steps p.tables e below (s₁.setTop (mkF m 13 #[.val (.ref xa), .val (.int xi)] [(.int xi), (.int (2 : Int32)), (.ref xa)])) _
      refine XS.imul X0.here hx rfl (hb hby d_prog_5_method_12_13) rfl ?_
      show Steps p.tables e below (s₁.setTop (mkF m 14 #[.val (.ref xa), .val (.int xi)] [(.int ((2 : Int32) * xi)), (.ref xa)])) _
      refine XS.iconst X0.here hx rfl (hb hby d_prog_5_method_12_14) ?_
      show Steps p.tables e below (s₁.setTop (mkF m 15 #[.val (.ref xa), .val (.int xi)] [(.int (1 : Int32)), (.int ((2 : Int32) * xi)), (.ref xa)])) _
      refine XS.iadd X0.here hx rfl (hb hby d_prog_5_method_12_15) rfl ?_
      show Steps p.tables e below (s₁.setTop (mkF m 16 #[.val (.ref xa), .val (.int xi)] [(.int (((2 : Int32) * xi) + (1 : Int32))), (.ref xa)])) _
      refine X0.laload hx (j := (((2 : Int32) * xi) + (1 : Int32))) (v := (.long y1)) (by rw [e0]; exact Ar.1) (State.isArrayOf_alike hZ.alike Ar.2.1) Ar.2.2 hi1 ha1 (g := (mkF m 16 #[.val (.ref xa), .val (.int xi)] [(.int (((2 : Int32) * xi) + (1 : Int32))), (.ref xa)])) rfl rfl (hb hby d_prog_5_method_12_16) _ ?_
      show Steps p.tables e below (s₁.setTop (mkF m 17 #[.val (.ref xa), .val (.int xi)] [(.long y1)])) _
      refine XS.lconst X0.here hx rfl (hb hby d_prog_5_method_12_17) ?_
      show Steps p.tables e below (s₁.setTop (mkF m 18 #[.val (.ref xa), .val (.int xi)] [(.long (0 : Int64)), (.long y1)])) _
      refine XS.lcmp X0.here hx rfl (hb hby d_prog_5_method_12_18) rfl ?_
      show Steps p.tables e below (s₁.setTop (mkF m 19 #[.val (.ref xa), .val (.int xi)] [(.int (lcmpW y1 (0 : Int64)))])) _
      by_cases h19 : y1 = (0 : Int64)
      · refine XS.ifNo X0.here hx rfl (hb hby d_prog_5_method_12_19) rfl ((if0 _ _).trans (teq ((lw_eq _ _).2 h19)).2) ?_
        show Steps p.tables e below (s₁.setTop (mkF m 22 #[.val (.ref xa), .val (.int xi)] [])) _
        refine XS.iconst X0.here hx rfl (hb hby d_prog_5_method_12_22) ?_
        show Steps p.tables e below (s₁.setTop (mkF m 23 #[.val (.ref xa), .val (.int xi)] [(.int (1 : Int32))])) _
        refine XS.goto X0.here hx rfl (pc0 := 23) (pc' := 27) rfl (hb hby d_prog_5_method_12_23) (by decide) (by decide) ?_
        show Steps p.tables e below (s₁.setTop (mkF m 27 #[.val (.ref xa), .val (.int xi)] [(.int (1 : Int32))])) _
        exact retN X0 hx (t := .boolean) Bd.returns (by simp) (hb hby d_prog_5_method_12_27) (by rw [show nar .boolean (1 : Int32) = (zeroF y0 y1) from (own_nar1).trans (by simp only [zeroF, h7, h19, eq_self, if_true, if_false])]; exact hr)
      · refine XS.ifYes X0.here hx rfl (pc0 := 19) (pc' := 26) rfl (hb hby d_prog_5_method_12_19) rfl ((if0 _ _).trans (feq (fun q => h19 ((lw_eq _ _).1 q))).2) (by decide) (by decide) ?_
        show Steps p.tables e below (s₁.setTop (mkF m 26 #[.val (.ref xa), .val (.int xi)] [])) _
        refine XS.iconst X0.here hx rfl (hb hby d_prog_5_method_12_26) ?_
        show Steps p.tables e below (s₁.setTop (mkF m 27 #[.val (.ref xa), .val (.int xi)] [(.int (0 : Int32))])) _
        exact retN X0 hx (t := .boolean) Bd.returns (by simp) (hb hby d_prog_5_method_12_27) (by rw [show nar .boolean (0 : Int32) = (zeroF y0 y1) from (own_nar0).trans (by simp only [zeroF, h7, h19, eq_self, if_true, if_false])]; exact hr)
    · refine XS.ifYes X0.here hx rfl (pc0 := 7) (pc' := 26) rfl (hb hby d_prog_5_method_12_7) rfl ((if0 _ _).trans (feq (fun q => h7 ((lw_eq _ _).1 q))).2) (by decide) (by decide) ?_
      show Steps p.tables e below (s₁.setTop (mkF m 26 #[.val (.ref xa), .val (.int xi)] [])) _
      refine XS.iconst X0.here hx rfl (hb hby d_prog_5_method_12_26) ?_
      show Steps p.tables e below (s₁.setTop (mkF m 27 #[.val (.ref xa), .val (.int xi)] [(.int (0 : Int32))])) _
      exact retN X0 hx (t := .boolean) Bd.returns (by simp) (hb hby d_prog_5_method_12_27) (by rw [show nar .boolean (0 : Int32) = (zeroF y0 y1) from (own_nar0).trans (by simp only [zeroF, h7, eq_self, if_true, if_false])]; exact hr)
  · show Q_zero Z xa xi cl y0 y1 h0 n0 _ s₁.heap _
    exact ⟨rfl, N0, e0⟩
theorem pn_1 : plainName "com/example/servloom/servloom/compose/AmountZeroPinLaw" = true := by first | (simp [plainName, overriddenIn]; done) | decide +kernel
theorem pd_0 : parseMethodDescriptor "([JI)Z" = some ⟨[(.array .long), .int], some .boolean⟩ := by decide +kernel
theorem ef_law (m : MethodId) (xh : Int64) (xl : Int64) (xp : Int64) (xq : Int64) (xw : Int32) (xf : Int32) : entryFrame m #[(.long xh), (.long xl), (.long xp), (.long xq), (.int xw), (.int xf)] maxLocals = mkF m 0 #[.val (.long xh), .second, .val (.long xl), .second, .val (.long xp), .second, .val (.long xq), .second, .val (.int xw), .val (.int xf), .unset, .unset, .unset, .unset, .unset, .unset, .unset, .unset, .unset, .unset, .unset] [] := by first | (simp [entryFrame, mkF, argsToLocals, Value.category, maxLocals]; done) | rfl
def Q_law (Z : State) (xh : Int64) (xl : Int64) (xp : Int64) (xq : Int64) (xw : Int32) (xf : Int32) (h0 : Heap) (n0 : Nat) (v : Option Value) (h : Heap) (L : List Loc) : Prop := v = some (.int (lawF xh xl xf)) ∧ Fr n0 L ∧ True
set_option maxRecDepth 65536 in
set_option maxHeartbeats 40000000 in
theorem rm_law (l : Launch) (Z : State) (a0 : Array Value) (hw : ∀ d ∈ tables_1, d.before a0 Z = true) (ws : List Jvm.Cond) (xh : Int64) (xl : Int64) (xp : Int64) (xq : Int64) (xw : Int32) (xf : Int32) (h0 : Heap) (n0 : Nat) (Z0 : n0 ≤ h0.size) :
    MetFree l x (head1 (Jvm.Cond.code x code maxLocals ret :: ws) room_1) (fun a U => a = #[(.long xh), (.long xl), (.long xp), (.long xq), (.int xw), (.int xf)] ∧ Z.Warmed39 U.vm ∧ U.heap = h0) (fun _ _ _ _ _ => True) (fun _ U o U' => ∃ v L, o = .returned v ∧ Q_law Z xh xl xp xq xw xf h0 n0 v U'.heap L ∧ FrameEnd U o U' L room_1.cells room_1.slots) := by
  refine MetFree.of_bodySF (plainFor_of_name pn_1) hisR ?_
  intro p e s m args below meth c s₁ Bd hml0 hP hK
  obtain ⟨rfl, hZ, hh⟩ := hP
  have hx := Bd.exec
  have hby := Bd.bytes
  have hml : c.maxLocals = 21 := hml0
  have hown : s.vm.findClass "com/example/servloom/servloom/compose/AmountZeroPinLaw" = some m.cls := findClass_of_methodNamed Bd.named
  have X0 : Stand p l e room_1 s m #[(.long xh), (.long xl), (.long xp), (.long xq), (.int xw), (.int xf)] below meth c s₁ [] 0 0 := Stand.of_body Bd
  have e0 : s₁.heap = h0 := by rw [← hh, Bd.state]; rfl
  have N0 := Fr.nil n0
  have pre0 : ∀ t, Steps p.tables e below (s₁.setTop (mkF m 0 #[.val (.long xh), .second, .val (.long xl), .second, .val (.long xp), .second, .val (.long xq), .second, .val (.int xw), .val (.int xf), .unset, .unset, .unset, .unset, .unset, .unset, .unset, .unset, .unset, .unset, .unset] [])) t → Steps p.tables e below (s₁.setTop (entryFrame m #[(.long xh), (.long xl), (.long xp), (.long xq), (.int xw), (.int xf)] maxLocals)) t := fun t k => castTop (ef_law m xh xl xp xq xw xf) k
  obtain ⟨T1, h1, k1, X1, e1, E1, A1, st1⟩ := newP X0 hx hZ (hw _ (List.mem_of_getElem? (i := 2) rfl)) e0 (g := (mkF m 78 #[.val (.long xh), .second, .val (.long xl), .second, .val (.long xp), .second, .val (.long xq), .second, .val (.int xw), .val (.int xf), .val (.int (atF xw)), .val (.long (hF xh xf)), .second, .val (.long (lF xl xf)), .second, .val (.long (n1F xp xf)), .second, .val (.long (n2F xq xf)), .second, .unset, .unset] [(.int (6 : Int32))])) rfl (hb hby at_78) rfl (by decide) (cap := 6) (by decide) (by decide) (by decide) (by decide)
  obtain ⟨b1, g1⟩ : ∃ z, z = h0.size := ⟨_, rfl⟩
  rw [← g1] at A1 st1
  have V_b1 : Arv Z h1 b1 k1 .long (6 : Int32) [(.long (0 : Int64)), (.long (0 : Int64)), (.long (0 : Int64)), (.long (0 : Int64)), (.long (0 : Int64)), (.long (0 : Int64))] (.long (0 : Int64)) := (Arv.new A1 (by decide)).pad (pad_rep [] (.long (0 : Int64)) 6)
  have g_b1 : n0 ≤ b1 := Nat.le_trans Z0 (Nat.le_of_eq g1.symm)
  obtain ⟨cl2, Ar2, q2, S2, M2, H2, G2⟩ := V_b1
  have hin2 : ¬ ((0 : Int32) < 0 ∨ cl2.slots.size ≤ ((0 : Int32)).toNatClampNeg) := inb_of S2 ⟨by decide, by decide⟩
  obtain ⟨T2, h2, X2, e2, W2, st2⟩ := stJ X1 hx hZ e1 Ar2 (j := (0 : Int32)) hin2 (g := (mkF m 87 #[.val (.long xh), .second, .val (.long xl), .second, .val (.long xp), .second, .val (.long xq), .second, .val (.int xw), .val (.int xf), .val (.int (atF xw)), .val (.long (hF xh xf)), .second, .val (.long (lF xl xf)), .second, .val (.long (n1F xp xf)), .second, .val (.long (n2F xq xf)), .second, .val (.ref b1), .unset] [(.long (n1F xp xf)), (.int (0 : Int32)), (.ref b1)])) rfl rfl (hb hby at_87)
  have V2 := Arv.set Ar2 q2 S2 M2 H2 G2 rfl W2 0 rfl (Nat.le_of_ble_eq_true rfl)
  have N2 := Fr.snoc X2 N0 g_b1
  obtain ⟨cl3, Ar3, q3, S3, M3, H3, G3⟩ := V2
  have hin3 : ¬ ((1 : Int32) < 0 ∨ cl3.slots.size ≤ ((1 : Int32)).toNatClampNeg) := inb_of S3 ⟨by decide, by decide⟩
  obtain ⟨T3, h3, X3, e3, W3, st3⟩ := stJ X2 hx hZ e2 Ar3 (j := (1 : Int32)) hin3 (g := (mkF m 93 #[.val (.long xh), .second, .val (.long xl), .second, .val (.long xp), .second, .val (.long xq), .second, .val (.int xw), .val (.int xf), .val (.int (atF xw)), .val (.long (hF xh xf)), .second, .val (.long (lF xl xf)), .second, .val (.long (n1F xp xf)), .second, .val (.long (n2F xq xf)), .second, .val (.ref b1), .unset] [(.long (n2F xq xf)), (.int (1 : Int32)), (.ref b1)])) rfl rfl (hb hby at_93)
  have V3 := Arv.set Ar3 q3 S3 M3 H3 G3 rfl W3 1 rfl (Nat.le_of_ble_eq_true rfl)
  have N3 := Fr.snoc X3 N2 g_b1
  obtain ⟨cl4, Ar4, q4, S4, M4, H4, G4⟩ := V3
  have hin4 : ¬ ((2 : Int32) < 0 ∨ cl4.slots.size ≤ ((2 : Int32)).toNatClampNeg) := inb_of S4 ⟨by decide, by decide⟩
  obtain ⟨T4, h4, X4, e4, W4, st4⟩ := stJ X3 hx hZ e3 Ar4 (j := (2 : Int32)) hin4 (g := (mkF m 99 #[.val (.long xh), .second, .val (.long xl), .second, .val (.long xp), .second, .val (.long xq), .second, .val (.int xw), .val (.int xf), .val (.int (atF xw)), .val (.long (hF xh xf)), .second, .val (.long (lF xl xf)), .second, .val (.long (n1F xp xf)), .second, .val (.long (n2F xq xf)), .second, .val (.ref b1), .unset] [(.long (n2F xq xf)), (.int (2 : Int32)), (.ref b1)])) rfl rfl (hb hby at_99)
  have V4 := Arv.set Ar4 q4 S4 M4 H4 G4 rfl W4 2 rfl (Nat.le_of_ble_eq_true rfl)
  have N4 := Fr.snoc X4 N3 g_b1
  obtain ⟨cl5, Ar5, q5, S5, M5, H5, G5⟩ := V4
  have hin5 : ¬ ((3 : Int32) < 0 ∨ cl5.slots.size ≤ ((3 : Int32)).toNatClampNeg) := inb_of S5 ⟨by decide, by decide⟩
  obtain ⟨T5, h5, X5, e5, W5, st5⟩ := stJ X4 hx hZ e4 Ar5 (j := (3 : Int32)) hin5 (g := (mkF m 109 #[.val (.long xh), .second, .val (.long xl), .second, .val (.long xp), .second, .val (.long xq), .second, .val (.int xw), .val (.int xf), .val (.int (atF xw)), .val (.long (hF xh xf)), .second, .val (.long (lF xl xf)), .second, .val (.long (n1F xp xf)), .second, .val (.long (n2F xq xf)), .second, .val (.ref b1), .unset] [(.long ((n1F xp xf) &&& (9223372036854775807 : Int64))), (.int (3 : Int32)), (.ref b1)])) rfl rfl (hb hby at_109)
  have V5 := Arv.set Ar5 q5 S5 M5 H5 G5 rfl W5 3 rfl (Nat.le_of_ble_eq_true rfl)
  have N5 := Fr.snoc X5 N4 g_b1
  obtain ⟨cl6, Ar6, q6, S6, M6, H6, G6⟩ := V5
  have hin6 : ¬ ((4 : Int32) < 0 ∨ cl6.slots.size ≤ ((4 : Int32)).toNatClampNeg) := inb_of S6 ⟨by decide, by decide⟩
  obtain ⟨T6, h6, X6, e6, W6, st6⟩ := stJ X5 hx hZ e5 Ar6 (j := (4 : Int32)) hin6 (g := (mkF m 115 #[.val (.long xh), .second, .val (.long xl), .second, .val (.long xp), .second, .val (.long xq), .second, .val (.int xw), .val (.int xf), .val (.int (atF xw)), .val (.long (hF xh xf)), .second, .val (.long (lF xl xf)), .second, .val (.long (n1F xp xf)), .second, .val (.long (n2F xq xf)), .second, .val (.ref b1), .unset] [(.long (n1F xp xf)), (.int (4 : Int32)), (.ref b1)])) rfl rfl (hb hby at_115)
  have V6 := Arv.set Ar6 q6 S6 M6 H6 G6 rfl W6 4 rfl (Nat.le_of_ble_eq_true rfl)
  have N6 := Fr.snoc X6 N5 g_b1
  obtain ⟨cl7, Ar7, q7, S7, M7, H7, G7⟩ := V6
  have hin7 : ¬ ((5 : Int32) < 0 ∨ cl7.slots.size ≤ ((5 : Int32)).toNatClampNeg) := inb_of S7 ⟨by decide, by decide⟩
  obtain ⟨T7, h7, X7, e7, W7, st7⟩ := stJ X6 hx hZ e6 Ar7 (j := (5 : Int32)) hin7 (g := (mkF m 121 #[.val (.long xh), .second, .val (.long xl), .second, .val (.long xp), .second, .val (.long xq), .second, .val (.int xw), .val (.int xf), .val (.int (atF xw)), .val (.long (hF xh xf)), .second, .val (.long (lF xl xf)), .second, .val (.long (n1F xp xf)), .second, .val (.long (n2F xq xf)), .second, .val (.ref b1), .unset] [(.long (n2F xq xf)), (.int (5 : Int32)), (.ref b1)])) rfl rfl (hb hby at_121)
  have V7 := Arv.set Ar7 q7 S7 M7 H7 G7 rfl W7 5 rfl (Nat.le_of_ble_eq_true rfl)
  have N7 := Fr.snoc X7 N6 g_b1
  obtain ⟨cl8, Ar8, q8, S8, M8, H8, G8⟩ := V7
  have hin8 : ¬ (((2 : Int32) * (atF xw)) < 0 ∨ cl8.slots.size ≤ (((2 : Int32) * (atF xw))).toNatClampNeg) := inb_of S8 (ix0 xw)
  obtain ⟨T8, h8, X8, e8, W8, st8⟩ := stJ X7 hx hZ e7 Ar8 (j := ((2 : Int32) * (atF xw))) hin8 (g := (mkF m 130 #[.val (.long xh), .second, .val (.long xl), .second, .val (.long xp), .second, .val (.long xq), .second, .val (.int xw), .val (.int xf), .val (.int (atF xw)), .val (.long (hF xh xf)), .second, .val (.long (lF xl xf)), .second, .val (.long (n1F xp xf)), .second, .val (.long (n2F xq xf)), .second, .val (.ref b1), .unset] [(.long (hF xh xf)), (.int ((2 : Int32) * (atF xw))), (.ref b1)])) rfl rfl (hb hby at_130)
  have V8 := Arv.set Ar8 q8 S8 M8 H8 G8 rfl W8 ((2 : Int32) * (atF xw)).toNatClampNeg rfl (il0 xw)
  have N8 := Fr.snoc X8 N7 g_b1
  obtain ⟨cl9, Ar9, q9, S9, M9, H9, G9⟩ := V8
  have hin9 : ¬ ((((2 : Int32) * (atF xw)) + (1 : Int32)) < 0 ∨ cl9.slots.size ≤ ((((2 : Int32) * (atF xw)) + (1 : Int32))).toNatClampNeg) := inb_of S9 (ix1 xw)
  obtain ⟨T9, h9, X9, e9, W9, st9⟩ := stJ X8 hx hZ e8 Ar9 (j := (((2 : Int32) * (atF xw)) + (1 : Int32))) hin9 (g := (mkF m 141 #[.val (.long xh), .second, .val (.long xl), .second, .val (.long xp), .second, .val (.long xq), .second, .val (.int xw), .val (.int xf), .val (.int (atF xw)), .val (.long (hF xh xf)), .second, .val (.long (lF xl xf)), .second, .val (.long (n1F xp xf)), .second, .val (.long (n2F xq xf)), .second, .val (.ref b1), .unset] [(.long (lF xl xf)), (.int (((2 : Int32) * (atF xw)) + (1 : Int32))), (.ref b1)])) rfl rfl (hb hby at_141)
  have V9 := Arv.set Ar9 q9 S9 M9 H9 G9 rfl W9 (((2 : Int32) * (atF xw)) + (1 : Int32)).toNatClampNeg rfl (by rw [List.length_set]; exact il1 xw)
  have N9 := Fr.snoc X9 N8 g_b1
  obtain ⟨clz, Arz, qz, Sz, Mz, Hz, Gz⟩ := V9
  have hi0 := inb_of Sz (ix0 xw)
  have hi1 := inb_of Sz (ix1 xw)
  have ha0 := Hz.at hi0 (get0 xw _ _ _ _ _ _ _ _ _)
  have ha1 := Hz.at hi1 (get1 xw _ _ _ _ _ _ _ _ _)
  obtain ⟨_, _, ⟨T10, L10, k10, n10⟩, -, X10, ⟨Lc10, hQ10, l10, y10, z10⟩, st10⟩ := Jvm.LawKit.callS X9 hx (y := (⟨"com/example/servloom/servloom/compose/Amount", "zero", "([JI)Z"⟩ : MethodName)) hown (mvT hZ (hw _ (List.mem_of_getElem? (i := 3) rfl))) (mvT hZ (hw _ (List.mem_of_getElem? (i := 4) rfl))) (mvT hZ (hw _ (List.mem_of_getElem? (i := 5) rfl))) (mvT hZ (hw _ (List.mem_of_getElem? (i := 6) rfl))) (by decide) (backOf (W := 0) (rm_zero l Z a0 hw [] b1 (atF xw) clz (hF xh xf) (lF xl xf) h9 n0 (Nat.le_trans (Nat.le_trans (Nat.le_trans (Nat.le_trans (Nat.le_trans (Nat.le_trans (Nat.le_trans (Nat.le_trans (Nat.le_trans Z0 E1.1) (Keep.of_wr W2).1) (Keep.of_wr W3).1) (Keep.of_wr W4).1) (Keep.of_wr W5).1) (Keep.of_wr W6).1) (Keep.of_wr W7).1) (Keep.of_wr W8).1) (Keep.of_wr W9).1) Arz hi0 ha0 hi1 ha1) hZ (hw _ (List.mem_of_getElem? (i := 6) rfl)) (hw _ (List.mem_of_getElem? (i := 5) rfl)) (by decide) (by decide)) (g := (mkF m 167 #[.val (.long xh), .second, .val (.long xl), .second, .val (.long xp), .second, .val (.long xq), .second, .val (.int xw), .val (.int xf), .val (.int (atF xw)), .val (.long (hF xh xf)), .second, .val (.long (lF xl xf)), .second, .val (.long (n1F xp xf)), .second, .val (.long (n2F xq xf)), .second, .val (.ref b1), .val (.int (zeroF (hF xh xf) (lF xl xf)))] [(.int (atF xw)), (.ref b1)])) rfl (by rw [hml]; rfl) (argsL := [(.ref b1), (.int (atF xw))]) (rest := []) (lenOf pd_0 rfl) rfl (by show 2 * 0 + _ ≤ _; exact Nat.le_of_eq rfl) (hb hby at_167) (fun _ _ => ⟨rfl, e9, (by decide : 1 + 0 ≤ _), (by decide : 6 + 0 ≤ _)⟩)
  dsimp only [Pt.U, Pt.locs, Pt.cells, Pt.slots] at X10 l10 y10 z10 st10 hQ10
  subst l10 y10 z10
  obtain ⟨rfl, N10q, e10⟩ := hQ10
  have N10 := Fr.app N9 N10q
  obtain ⟨fs, hr, hrun, hended, hW, hsame⟩ := X10.leave (v := some (.int (lawF xh xl xf))) (fun h => by rw [Bd.returns] at h; cases h)
  refine ⟨_, _, pre0 _ ?_, hrun, hended, _, _, rfl, ?_, ⟨_, rfl⟩, hW, hsame.mono (by decide) (by decide)⟩
  · show Steps p.tables e below (s₁.setTop (mkF m 0 #[.val (.long xh), .second, .val (.long xl), .second, .val (.long xp), .second, .val (.long xq), .second, .val (.int xw), .val (.int xf), .unset, .unset, .unset, .unset, .unset, .unset, .unset, .unset, .unset, .unset, .unset] [])) _
    refine XS.iload X0.here hx rfl (hb hby at_0) rfl ?_
    show Steps p.tables e below (s₁.setTop (mkF m 2 #[.val (.long xh), .second, .val (.long xl), .second, .val (.long xp), .second, .val (.long xq), .second, .val (.int xw), .val (.int xf), .unset, .unset, .unset, .unset, .unset, .unset, .unset, .unset, .unset, .unset, .unset] [(.int xw)])) _
    refine X0.ldcInt hx hown (mvT hZ (hw _ (List.mem_of_getElem? (i := 0) rfl))) (g := (mkF m 2 #[.val (.long xh), .second, .val (.long xl), .second, .val (.long xp), .second, .val (.long xq), .second, .val (.int xw), .val (.int xf), .unset, .unset, .unset, .unset, .unset, .unset, .unset, .unset, .unset, .unset, .unset] [(.int xw)])) rfl (hb hby at_2) _ ?_
    show Steps p.tables e below (s₁.setTop (mkF m 4 #[.val (.long xh), .second, .val (.long xl), .second, .val (.long xp), .second, .val (.long xq), .second, .val (.int xw), .val (.int xf), .unset, .unset, .unset, .unset, .unset, .unset, .unset, .unset, .unset, .unset, .unset] [(.int (2147483647 : Int32)), (.int xw)])) _
    refine XS.iand X0.here hx rfl (hb hby at_4) rfl ?_
    show Steps p.tables e below (s₁.setTop (mkF m 5 #[.val (.long xh), .second, .val (.long xl), .second, .val (.long xp), .second, .val (.long xq), .second, .val (.int xw), .val (.int xf), .unset, .unset, .unset, .unset, .unset, .unset, .unset, .unset, .unset, .unset, .unset] [(.int (xw &&& (2147483647 : Int32)))])) _
    refine XS.iconst X0.here hx rfl (hb hby at_5) ?_
    show Steps p.tables e below (s₁.setTop (mkF m 6 #[.val (.long xh), .second, .val (.long xl), .second, .val (.long xp), .second, .val (.long xq), .second, .val (.int xw), .val (.int xf), .unset, .unset, .unset, .unset, .unset, .unset, .unset, .unset, .unset, .unset, .unset] [(.int (3 : Int32)), (.int (xw &&& (2147483647 : Int32)))])) _
    refine XS.irem X0.here hx rfl (hb hby at_6) rfl (by decide) ?_
    show Steps p.tables e below (s₁.setTop (mkF m 7 #[.val (.long xh), .second, .val (.long xl), .second, .val (.long xp), .second, .val (.long xq), .second, .val (.int xw), .val (.int xf), .unset, .unset, .unset, .unset, .unset, .unset, .unset, .unset, .unset, .unset, .unset] [(.int ((xw &&& (2147483647 : Int32)) - ((xw &&& (2147483647 : Int32)) / (3 : Int32)) * (3 : Int32)))])) _
    refine XS.istore X0.here hx rfl (hb hby at_7) rfl (l' := #[.val (.long xh), .second, .val (.long xl), .second, .val (.long xp), .second, .val (.long xq), .second, .val (.int xw), .val (.int xf), .val (.int (atF xw)), .unset, .unset, .unset, .unset, .unset, .unset, .unset, .unset, .unset, .unset]) rfl ?_
    show Steps p.tables e below (s₁.setTop (mkF m 9 #[.val (.long xh), .second, .val (.long xl), .second, .val (.long xp), .second, .val (.long xq), .second, .val (.int xw), .val (.int xf), .val (.int (atF xw)), .unset, .unset, .unset, .unset, .unset, .unset, .unset, .unset, .unset, .unset] [])) _
    refine XS.iload X0.here hx rfl (hb hby at_9) rfl ?_
    show Steps p.tables e below (s₁.setTop (mkF m 11 #[.val (.long xh), .second, .val (.long xl), .second, .val (.long xp), .second, .val (.long xq), .second, .val (.int xw), .val (.int xf), .val (.int (atF xw)), .unset, .unset, .unset, .unset, .unset, .unset, .unset, .unset, .unset, .unset] [(.int xf)])) _
    refine XS.iconst X0.here hx rfl (hb hby at_11) ?_
    show Steps p.tables e below (s₁.setTop (mkF m 12 #[.val (.long xh), .second, .val (.long xl), .second, .val (.long xp), .second, .val (.long xq), .second, .val (.int xw), .val (.int xf), .val (.int (atF xw)), .unset, .unset, .unset, .unset, .unset, .unset, .unset, .unset, .unset, .unset] [(.int (1 : Int32)), (.int xf)])) _
    refine XS.iand X0.here hx rfl (hb hby at_12) rfl ?_
    show Steps p.tables e below (s₁.setTop (mkF m 13 #[.val (.long xh), .second, .val (.long xl), .second, .val (.long xp), .second, .val (.long xq), .second, .val (.int xw), .val (.int xf), .val (.int (atF xw)), .unset, .unset, .unset, .unset, .unset, .unset, .unset, .unset, .unset, .unset] [(.int (xf &&& (1 : Int32)))])) _
    suffices J13 : Steps p.tables e below (s₁.setTop (mkF m 21 #[.val (.long xh), .second, .val (.long xl), .second, .val (.long xp), .second, .val (.long xq), .second, .val (.int xw), .val (.int xf), .val (.int (atF xw)), .unset, .unset, .unset, .unset, .unset, .unset, .unset, .unset, .unset, .unset] [(.long (hF xh xf))])) (T10.setFrames fs) by
      by_cases h13 : (xf &&& (1 : Int32)) = (0 : Int32)
      · refine XS.ifYes X0.here hx rfl (pc0 := 13) (pc' := 20) rfl (hb hby at_13) rfl ((if0 _ _).trans (teq h13).1) (by decide) (by decide) ?_
        show Steps p.tables e below (s₁.setTop (mkF m 20 #[.val (.long xh), .second, .val (.long xl), .second, .val (.long xp), .second, .val (.long xq), .second, .val (.int xw), .val (.int xf), .val (.int (atF xw)), .unset, .unset, .unset, .unset, .unset, .unset, .unset, .unset, .unset, .unset] [])) _
        refine XS.lloadN X0.here hx rfl (hb hby at_20) rfl ?_
        show Steps p.tables e below (s₁.setTop (mkF m 21 #[.val (.long xh), .second, .val (.long xl), .second, .val (.long xp), .second, .val (.long xq), .second, .val (.int xw), .val (.int xf), .val (.int (atF xw)), .unset, .unset, .unset, .unset, .unset, .unset, .unset, .unset, .unset, .unset] [(.long xh)])) _
        rw [show (hF xh xf) = xh from by simp only [hF, h13, eq_self, if_true, if_false]] at J13
        exact J13
      · refine XS.ifNo X0.here hx rfl (hb hby at_13) rfl ((if0 _ _).trans (feq h13).1) ?_
        show Steps p.tables e below (s₁.setTop (mkF m 16 #[.val (.long xh), .second, .val (.long xl), .second, .val (.long xp), .second, .val (.long xq), .second, .val (.int xw), .val (.int xf), .val (.int (atF xw)), .unset, .unset, .unset, .unset, .unset, .unset, .unset, .unset, .unset, .unset] [])) _
        refine XS.lconst X0.here hx rfl (hb hby at_16) ?_
        show Steps p.tables e below (s₁.setTop (mkF m 17 #[.val (.long xh), .second, .val (.long xl), .second, .val (.long xp), .second, .val (.long xq), .second, .val (.int xw), .val (.int xf), .val (.int (atF xw)), .unset, .unset, .unset, .unset, .unset, .unset, .unset, .unset, .unset, .unset] [(.long (0 : Int64))])) _
        refine XS.goto X0.here hx rfl (pc0 := 17) (pc' := 21) rfl (hb hby at_17) (by decide) (by decide) ?_
        show Steps p.tables e below (s₁.setTop (mkF m 21 #[.val (.long xh), .second, .val (.long xl), .second, .val (.long xp), .second, .val (.long xq), .second, .val (.int xw), .val (.int xf), .val (.int (atF xw)), .unset, .unset, .unset, .unset, .unset, .unset, .unset, .unset, .unset, .unset] [(.long (0 : Int64))])) _
        rw [show (hF xh xf) = (0 : Int64) from by simp only [hF, h13, eq_self, if_true, if_false]] at J13
        exact J13
    show Steps p.tables e below (s₁.setTop (mkF m 21 #[.val (.long xh), .second, .val (.long xl), .second, .val (.long xp), .second, .val (.long xq), .second, .val (.int xw), .val (.int xf), .val (.int (atF xw)), .unset, .unset, .unset, .unset, .unset, .unset, .unset, .unset, .unset, .unset] [(.long (hF xh xf))])) _
    refine XS.lstore X0.here hx rfl (hb hby at_21) rfl (l' := #[.val (.long xh), .second, .val (.long xl), .second, .val (.long xp), .second, .val (.long xq), .second, .val (.int xw), .val (.int xf), .val (.int (atF xw)), .val (.long (hF xh xf)), .second, .unset, .unset, .unset, .unset, .unset, .unset, .unset, .unset]) rfl ?_
    show Steps p.tables e below (s₁.setTop (mkF m 23 #[.val (.long xh), .second, .val (.long xl), .second, .val (.long xp), .second, .val (.long xq), .second, .val (.int xw), .val (.int xf), .val (.int (atF xw)), .val (.long (hF xh xf)), .second, .unset, .unset, .unset, .unset, .unset, .unset, .unset, .unset] [])) _
    refine XS.iload X0.here hx rfl (hb hby at_23) rfl ?_
    show Steps p.tables e below (s₁.setTop (mkF m 25 #[.val (.long xh), .second, .val (.long xl), .second, .val (.long xp), .second, .val (.long xq), .second, .val (.int xw), .val (.int xf), .val (.int (atF xw)), .val (.long (hF xh xf)), .second, .unset, .unset, .unset, .unset, .unset, .unset, .unset, .unset] [(.int xf)])) _
    refine XS.iconst X0.here hx rfl (hb hby at_25) ?_
    show Steps p.tables e below (s₁.setTop (mkF m 26 #[.val (.long xh), .second, .val (.long xl), .second, .val (.long xp), .second, .val (.long xq), .second, .val (.int xw), .val (.int xf), .val (.int (atF xw)), .val (.long (hF xh xf)), .second, .unset, .unset, .unset, .unset, .unset, .unset, .unset, .unset] [(.int (2 : Int32)), (.int xf)])) _
    refine XS.iand X0.here hx rfl (hb hby at_26) rfl ?_
    show Steps p.tables e below (s₁.setTop (mkF m 27 #[.val (.long xh), .second, .val (.long xl), .second, .val (.long xp), .second, .val (.long xq), .second, .val (.int xw), .val (.int xf), .val (.int (atF xw)), .val (.long (hF xh xf)), .second, .unset, .unset, .unset, .unset, .unset, .unset, .unset, .unset] [(.int (xf &&& (2 : Int32)))])) _
    suffices J27 : Steps p.tables e below (s₁.setTop (mkF m 39 #[.val (.long xh), .second, .val (.long xl), .second, .val (.long xp), .second, .val (.long xq), .second, .val (.int xw), .val (.int xf), .val (.int (atF xw)), .val (.long (hF xh xf)), .second, .unset, .unset, .unset, .unset, .unset, .unset, .unset, .unset] [(.long (lF xl xf))])) (T10.setFrames fs) by
      by_cases h27 : (xf &&& (2 : Int32)) = (0 : Int32)
      · refine XS.ifYes X0.here hx rfl (pc0 := 27) (pc' := 34) rfl (hb hby at_27) rfl ((if0 _ _).trans (teq h27).1) (by decide) (by decide) ?_
        show Steps p.tables e below (s₁.setTop (mkF m 34 #[.val (.long xh), .second, .val (.long xl), .second, .val (.long xp), .second, .val (.long xq), .second, .val (.int xw), .val (.int xf), .val (.int (atF xw)), .val (.long (hF xh xf)), .second, .unset, .unset, .unset, .unset, .unset, .unset, .unset, .unset] [])) _
        refine XS.lloadN X0.here hx rfl (hb hby at_34) rfl ?_
        show Steps p.tables e below (s₁.setTop (mkF m 35 #[.val (.long xh), .second, .val (.long xl), .second, .val (.long xp), .second, .val (.long xq), .second, .val (.int xw), .val (.int xf), .val (.int (atF xw)), .val (.long (hF xh xf)), .second, .unset, .unset, .unset, .unset, .unset, .unset, .unset, .unset] [(.long xl)])) _
        refine X0.ldc2Long hx hown (mvT hZ (hw _ (List.mem_of_getElem? (i := 1) rfl))) (g := (mkF m 35 #[.val (.long xh), .second, .val (.long xl), .second, .val (.long xp), .second, .val (.long xq), .second, .val (.int xw), .val (.int xf), .val (.int (atF xw)), .val (.long (hF xh xf)), .second, .unset, .unset, .unset, .unset, .unset, .unset, .unset, .unset] [(.long xl)])) rfl (hb hby at_35) _ ?_
        show Steps p.tables e below (s₁.setTop (mkF m 38 #[.val (.long xh), .second, .val (.long xl), .second, .val (.long xp), .second, .val (.long xq), .second, .val (.int xw), .val (.int xf), .val (.int (atF xw)), .val (.long (hF xh xf)), .second, .unset, .unset, .unset, .unset, .unset, .unset, .unset, .unset] [(.long (9223372036854775807 : Int64)), (.long xl)])) _
        refine XS.land X0.here hx rfl (hb hby at_38) rfl ?_
        show Steps p.tables e below (s₁.setTop (mkF m 39 #[.val (.long xh), .second, .val (.long xl), .second, .val (.long xp), .second, .val (.long xq), .second, .val (.int xw), .val (.int xf), .val (.int (atF xw)), .val (.long (hF xh xf)), .second, .unset, .unset, .unset, .unset, .unset, .unset, .unset, .unset] [(.long (xl &&& (9223372036854775807 : Int64)))])) _
        rw [show (lF xl xf) = (xl &&& (9223372036854775807 : Int64)) from by simp only [lF, h27, eq_self, if_true, if_false]] at J27
        exact J27
      · refine XS.ifNo X0.here hx rfl (hb hby at_27) rfl ((if0 _ _).trans (feq h27).1) ?_
        show Steps p.tables e below (s₁.setTop (mkF m 30 #[.val (.long xh), .second, .val (.long xl), .second, .val (.long xp), .second, .val (.long xq), .second, .val (.int xw), .val (.int xf), .val (.int (atF xw)), .val (.long (hF xh xf)), .second, .unset, .unset, .unset, .unset, .unset, .unset, .unset, .unset] [])) _
        refine XS.lconst X0.here hx rfl (hb hby at_30) ?_
        show Steps p.tables e below (s₁.setTop (mkF m 31 #[.val (.long xh), .second, .val (.long xl), .second, .val (.long xp), .second, .val (.long xq), .second, .val (.int xw), .val (.int xf), .val (.int (atF xw)), .val (.long (hF xh xf)), .second, .unset, .unset, .unset, .unset, .unset, .unset, .unset, .unset] [(.long (0 : Int64))])) _
        refine XS.goto X0.here hx rfl (pc0 := 31) (pc' := 39) rfl (hb hby at_31) (by decide) (by decide) ?_
        show Steps p.tables e below (s₁.setTop (mkF m 39 #[.val (.long xh), .second, .val (.long xl), .second, .val (.long xp), .second, .val (.long xq), .second, .val (.int xw), .val (.int xf), .val (.int (atF xw)), .val (.long (hF xh xf)), .second, .unset, .unset, .unset, .unset, .unset, .unset, .unset, .unset] [(.long (0 : Int64))])) _
        rw [show (lF xl xf) = (0 : Int64) from by simp only [lF, h27, eq_self, if_true, if_false]] at J27
        exact J27
    show Steps p.tables e below (s₁.setTop (mkF m 39 #[.val (.long xh), .second, .val (.long xl), .second, .val (.long xp), .second, .val (.long xq), .second, .val (.int xw), .val (.int xf), .val (.int (atF xw)), .val (.long (hF xh xf)), .second, .unset, .unset, .unset, .unset, .unset, .unset, .unset, .unset] [(.long (lF xl xf))])) _
    refine XS.lstore X0.here hx rfl (hb hby at_39) rfl (l' := #[.val (.long xh), .second, .val (.long xl), .second, .val (.long xp), .second, .val (.long xq), .second, .val (.int xw), .val (.int xf), .val (.int (atF xw)), .val (.long (hF xh xf)), .second, .val (.long (lF xl xf)), .second, .unset, .unset, .unset, .unset, .unset, .unset]) rfl ?_
    show Steps p.tables e below (s₁.setTop (mkF m 41 #[.val (.long xh), .second, .val (.long xl), .second, .val (.long xp), .second, .val (.long xq), .second, .val (.int xw), .val (.int xf), .val (.int (atF xw)), .val (.long (hF xh xf)), .second, .val (.long (lF xl xf)), .second, .unset, .unset, .unset, .unset, .unset, .unset] [])) _
    refine XS.iload X0.here hx rfl (hb hby at_41) rfl ?_
    show Steps p.tables e below (s₁.setTop (mkF m 43 #[.val (.long xh), .second, .val (.long xl), .second, .val (.long xp), .second, .val (.long xq), .second, .val (.int xw), .val (.int xf), .val (.int (atF xw)), .val (.long (hF xh xf)), .second, .val (.long (lF xl xf)), .second, .unset, .unset, .unset, .unset, .unset, .unset] [(.int xf)])) _
    refine XS.iconst X0.here hx rfl (hb hby at_43) ?_
    show Steps p.tables e below (s₁.setTop (mkF m 44 #[.val (.long xh), .second, .val (.long xl), .second, .val (.long xp), .second, .val (.long xq), .second, .val (.int xw), .val (.int xf), .val (.int (atF xw)), .val (.long (hF xh xf)), .second, .val (.long (lF xl xf)), .second, .unset, .unset, .unset, .unset, .unset, .unset] [(.int (4 : Int32)), (.int xf)])) _
    refine XS.iand X0.here hx rfl (hb hby at_44) rfl ?_
    show Steps p.tables e below (s₁.setTop (mkF m 45 #[.val (.long xh), .second, .val (.long xl), .second, .val (.long xp), .second, .val (.long xq), .second, .val (.int xw), .val (.int xf), .val (.int (atF xw)), .val (.long (hF xh xf)), .second, .val (.long (lF xl xf)), .second, .unset, .unset, .unset, .unset, .unset, .unset] [(.int (xf &&& (4 : Int32)))])) _
    suffices J45 : Steps p.tables e below (s₁.setTop (mkF m 54 #[.val (.long xh), .second, .val (.long xl), .second, .val (.long xp), .second, .val (.long xq), .second, .val (.int xw), .val (.int xf), .val (.int (atF xw)), .val (.long (hF xh xf)), .second, .val (.long (lF xl xf)), .second, .unset, .unset, .unset, .unset, .unset, .unset] [(.long (n1F xp xf))])) (T10.setFrames fs) by
      by_cases h45 : (xf &&& (4 : Int32)) = (0 : Int32)
      · refine XS.ifYes X0.here hx rfl (pc0 := 45) (pc' := 52) rfl (hb hby at_45) rfl ((if0 _ _).trans (teq h45).1) (by decide) (by decide) ?_
        show Steps p.tables e below (s₁.setTop (mkF m 52 #[.val (.long xh), .second, .val (.long xl), .second, .val (.long xp), .second, .val (.long xq), .second, .val (.int xw), .val (.int xf), .val (.int (atF xw)), .val (.long (hF xh xf)), .second, .val (.long (lF xl xf)), .second, .unset, .unset, .unset, .unset, .unset, .unset] [])) _
        refine XS.lload X0.here hx rfl (hb hby at_52) rfl ?_
        show Steps p.tables e below (s₁.setTop (mkF m 54 #[.val (.long xh), .second, .val (.long xl), .second, .val (.long xp), .second, .val (.long xq), .second, .val (.int xw), .val (.int xf), .val (.int (atF xw)), .val (.long (hF xh xf)), .second, .val (.long (lF xl xf)), .second, .unset, .unset, .unset, .unset, .unset, .unset] [(.long xp)])) _
        rw [show (n1F xp xf) = xp from by simp only [n1F, h45, eq_self, if_true, if_false]] at J45
        exact J45
      · refine XS.ifNo X0.here hx rfl (hb hby at_45) rfl ((if0 _ _).trans (feq h45).1) ?_
        show Steps p.tables e below (s₁.setTop (mkF m 48 #[.val (.long xh), .second, .val (.long xl), .second, .val (.long xp), .second, .val (.long xq), .second, .val (.int xw), .val (.int xf), .val (.int (atF xw)), .val (.long (hF xh xf)), .second, .val (.long (lF xl xf)), .second, .unset, .unset, .unset, .unset, .unset, .unset] [])) _
        refine XS.lconst X0.here hx rfl (hb hby at_48) ?_
        show Steps p.tables e below (s₁.setTop (mkF m 49 #[.val (.long xh), .second, .val (.long xl), .second, .val (.long xp), .second, .val (.long xq), .second, .val (.int xw), .val (.int xf), .val (.int (atF xw)), .val (.long (hF xh xf)), .second, .val (.long (lF xl xf)), .second, .unset, .unset, .unset, .unset, .unset, .unset] [(.long (0 : Int64))])) _
        refine XS.goto X0.here hx rfl (pc0 := 49) (pc' := 54) rfl (hb hby at_49) (by decide) (by decide) ?_
        show Steps p.tables e below (s₁.setTop (mkF m 54 #[.val (.long xh), .second, .val (.long xl), .second, .val (.long xp), .second, .val (.long xq), .second, .val (.int xw), .val (.int xf), .val (.int (atF xw)), .val (.long (hF xh xf)), .second, .val (.long (lF xl xf)), .second, .unset, .unset, .unset, .unset, .unset, .unset] [(.long (0 : Int64))])) _
        rw [show (n1F xp xf) = (0 : Int64) from by simp only [n1F, h45, eq_self, if_true, if_false]] at J45
        exact J45
    show Steps p.tables e below (s₁.setTop (mkF m 54 #[.val (.long xh), .second, .val (.long xl), .second, .val (.long xp), .second, .val (.long xq), .second, .val (.int xw), .val (.int xf), .val (.int (atF xw)), .val (.long (hF xh xf)), .second, .val (.long (lF xl xf)), .second, .unset, .unset, .unset, .unset, .unset, .unset] [(.long (n1F xp xf))])) _
    refine XS.lstore X0.here hx rfl (hb hby at_54) rfl (l' := #[.val (.long xh), .second, .val (.long xl), .second, .val (.long xp), .second, .val (.long xq), .second, .val (.int xw), .val (.int xf), .val (.int (atF xw)), .val (.long (hF xh xf)), .second, .val (.long (lF xl xf)), .second, .val (.long (n1F xp xf)), .second, .unset, .unset, .unset, .unset]) rfl ?_
    show Steps p.tables e below (s₁.setTop (mkF m 56 #[.val (.long xh), .second, .val (.long xl), .second, .val (.long xp), .second, .val (.long xq), .second, .val (.int xw), .val (.int xf), .val (.int (atF xw)), .val (.long (hF xh xf)), .second, .val (.long (lF xl xf)), .second, .val (.long (n1F xp xf)), .second, .unset, .unset, .unset, .unset] [])) _
    refine XS.iload X0.here hx rfl (hb hby at_56) rfl ?_
    show Steps p.tables e below (s₁.setTop (mkF m 58 #[.val (.long xh), .second, .val (.long xl), .second, .val (.long xp), .second, .val (.long xq), .second, .val (.int xw), .val (.int xf), .val (.int (atF xw)), .val (.long (hF xh xf)), .second, .val (.long (lF xl xf)), .second, .val (.long (n1F xp xf)), .second, .unset, .unset, .unset, .unset] [(.int xf)])) _
    refine XS.bipush X0.here hx rfl (hb hby at_58) ?_
    show Steps p.tables e below (s₁.setTop (mkF m 60 #[.val (.long xh), .second, .val (.long xl), .second, .val (.long xp), .second, .val (.long xq), .second, .val (.int xw), .val (.int xf), .val (.int (atF xw)), .val (.long (hF xh xf)), .second, .val (.long (lF xl xf)), .second, .val (.long (n1F xp xf)), .second, .unset, .unset, .unset, .unset] [(.int (8 : Int32)), (.int xf)])) _
    refine XS.iand X0.here hx rfl (hb hby at_60) rfl ?_
    show Steps p.tables e below (s₁.setTop (mkF m 61 #[.val (.long xh), .second, .val (.long xl), .second, .val (.long xp), .second, .val (.long xq), .second, .val (.int xw), .val (.int xf), .val (.int (atF xw)), .val (.long (hF xh xf)), .second, .val (.long (lF xl xf)), .second, .val (.long (n1F xp xf)), .second, .unset, .unset, .unset, .unset] [(.int (xf &&& (8 : Int32)))])) _
    suffices J61 : Steps p.tables e below (s₁.setTop (mkF m 74 #[.val (.long xh), .second, .val (.long xl), .second, .val (.long xp), .second, .val (.long xq), .second, .val (.int xw), .val (.int xf), .val (.int (atF xw)), .val (.long (hF xh xf)), .second, .val (.long (lF xl xf)), .second, .val (.long (n1F xp xf)), .second, .unset, .unset, .unset, .unset] [(.long (n2F xq xf))])) (T10.setFrames fs) by
      by_cases h61 : (xf &&& (8 : Int32)) = (0 : Int32)
      · refine XS.ifYes X0.here hx rfl (pc0 := 61) (pc' := 68) rfl (hb hby at_61) rfl ((if0 _ _).trans (teq h61).1) (by decide) (by decide) ?_
        show Steps p.tables e below (s₁.setTop (mkF m 68 #[.val (.long xh), .second, .val (.long xl), .second, .val (.long xp), .second, .val (.long xq), .second, .val (.int xw), .val (.int xf), .val (.int (atF xw)), .val (.long (hF xh xf)), .second, .val (.long (lF xl xf)), .second, .val (.long (n1F xp xf)), .second, .unset, .unset, .unset, .unset] [])) _
        refine XS.lload X0.here hx rfl (hb hby at_68) rfl ?_
        show Steps p.tables e below (s₁.setTop (mkF m 70 #[.val (.long xh), .second, .val (.long xl), .second, .val (.long xp), .second, .val (.long xq), .second, .val (.int xw), .val (.int xf), .val (.int (atF xw)), .val (.long (hF xh xf)), .second, .val (.long (lF xl xf)), .second, .val (.long (n1F xp xf)), .second, .unset, .unset, .unset, .unset] [(.long xq)])) _
        refine X0.ldc2Long hx hown (mvT hZ (hw _ (List.mem_of_getElem? (i := 1) rfl))) (g := (mkF m 70 #[.val (.long xh), .second, .val (.long xl), .second, .val (.long xp), .second, .val (.long xq), .second, .val (.int xw), .val (.int xf), .val (.int (atF xw)), .val (.long (hF xh xf)), .second, .val (.long (lF xl xf)), .second, .val (.long (n1F xp xf)), .second, .unset, .unset, .unset, .unset] [(.long xq)])) rfl (hb hby at_70) _ ?_
        show Steps p.tables e below (s₁.setTop (mkF m 73 #[.val (.long xh), .second, .val (.long xl), .second, .val (.long xp), .second, .val (.long xq), .second, .val (.int xw), .val (.int xf), .val (.int (atF xw)), .val (.long (hF xh xf)), .second, .val (.long (lF xl xf)), .second, .val (.long (n1F xp xf)), .second, .unset, .unset, .unset, .unset] [(.long (9223372036854775807 : Int64)), (.long xq)])) _
        refine XS.land X0.here hx rfl (hb hby at_73) rfl ?_
        show Steps p.tables e below (s₁.setTop (mkF m 74 #[.val (.long xh), .second, .val (.long xl), .second, .val (.long xp), .second, .val (.long xq), .second, .val (.int xw), .val (.int xf), .val (.int (atF xw)), .val (.long (hF xh xf)), .second, .val (.long (lF xl xf)), .second, .val (.long (n1F xp xf)), .second, .unset, .unset, .unset, .unset] [(.long (xq &&& (9223372036854775807 : Int64)))])) _
        rw [show (n2F xq xf) = (xq &&& (9223372036854775807 : Int64)) from by simp only [n2F, h61, eq_self, if_true, if_false]] at J61
        exact J61
      · refine XS.ifNo X0.here hx rfl (hb hby at_61) rfl ((if0 _ _).trans (feq h61).1) ?_
        show Steps p.tables e below (s₁.setTop (mkF m 64 #[.val (.long xh), .second, .val (.long xl), .second, .val (.long xp), .second, .val (.long xq), .second, .val (.int xw), .val (.int xf), .val (.int (atF xw)), .val (.long (hF xh xf)), .second, .val (.long (lF xl xf)), .second, .val (.long (n1F xp xf)), .second, .unset, .unset, .unset, .unset] [])) _
        refine XS.lconst X0.here hx rfl (hb hby at_64) ?_
        show Steps p.tables e below (s₁.setTop (mkF m 65 #[.val (.long xh), .second, .val (.long xl), .second, .val (.long xp), .second, .val (.long xq), .second, .val (.int xw), .val (.int xf), .val (.int (atF xw)), .val (.long (hF xh xf)), .second, .val (.long (lF xl xf)), .second, .val (.long (n1F xp xf)), .second, .unset, .unset, .unset, .unset] [(.long (0 : Int64))])) _
        refine XS.goto X0.here hx rfl (pc0 := 65) (pc' := 74) rfl (hb hby at_65) (by decide) (by decide) ?_
        show Steps p.tables e below (s₁.setTop (mkF m 74 #[.val (.long xh), .second, .val (.long xl), .second, .val (.long xp), .second, .val (.long xq), .second, .val (.int xw), .val (.int xf), .val (.int (atF xw)), .val (.long (hF xh xf)), .second, .val (.long (lF xl xf)), .second, .val (.long (n1F xp xf)), .second, .unset, .unset, .unset, .unset] [(.long (0 : Int64))])) _
        rw [show (n2F xq xf) = (0 : Int64) from by simp only [n2F, h61, eq_self, if_true, if_false]] at J61
        exact J61
    show Steps p.tables e below (s₁.setTop (mkF m 74 #[.val (.long xh), .second, .val (.long xl), .second, .val (.long xp), .second, .val (.long xq), .second, .val (.int xw), .val (.int xf), .val (.int (atF xw)), .val (.long (hF xh xf)), .second, .val (.long (lF xl xf)), .second, .val (.long (n1F xp xf)), .second, .unset, .unset, .unset, .unset] [(.long (n2F xq xf))])) _
    refine XS.lstore X0.here hx rfl (hb hby at_74) rfl (l' := #[.val (.long xh), .second, .val (.long xl), .second, .val (.long xp), .second, .val (.long xq), .second, .val (.int xw), .val (.int xf), .val (.int (atF xw)), .val (.long (hF xh xf)), .second, .val (.long (lF xl xf)), .second, .val (.long (n1F xp xf)), .second, .val (.long (n2F xq xf)), .second, .unset, .unset]) rfl ?_
    show Steps p.tables e below (s₁.setTop (mkF m 76 #[.val (.long xh), .second, .val (.long xl), .second, .val (.long xp), .second, .val (.long xq), .second, .val (.int xw), .val (.int xf), .val (.int (atF xw)), .val (.long (hF xh xf)), .second, .val (.long (lF xl xf)), .second, .val (.long (n1F xp xf)), .second, .val (.long (n2F xq xf)), .second, .unset, .unset] [])) _
    refine XS.bipush X0.here hx rfl (hb hby at_76) ?_
    show Steps p.tables e below (s₁.setTop (mkF m 78 #[.val (.long xh), .second, .val (.long xl), .second, .val (.long xp), .second, .val (.long xq), .second, .val (.int xw), .val (.int xf), .val (.int (atF xw)), .val (.long (hF xh xf)), .second, .val (.long (lF xl xf)), .second, .val (.long (n1F xp xf)), .second, .val (.long (n2F xq xf)), .second, .unset, .unset] [(.int (6 : Int32))])) _
    refine st1 _ ?_
    show Steps p.tables e below (T1.setTop (mkF m 80 #[.val (.long xh), .second, .val (.long xl), .second, .val (.long xp), .second, .val (.long xq), .second, .val (.int xw), .val (.int xf), .val (.int (atF xw)), .val (.long (hF xh xf)), .second, .val (.long (lF xl xf)), .second, .val (.long (n1F xp xf)), .second, .val (.long (n2F xq xf)), .second, .unset, .unset] [(.ref b1)])) _
    refine XS.astore X1.here hx rfl (hb hby at_80) rfl rfl (l' := #[.val (.long xh), .second, .val (.long xl), .second, .val (.long xp), .second, .val (.long xq), .second, .val (.int xw), .val (.int xf), .val (.int (atF xw)), .val (.long (hF xh xf)), .second, .val (.long (lF xl xf)), .second, .val (.long (n1F xp xf)), .second, .val (.long (n2F xq xf)), .second, .val (.ref b1), .unset]) rfl ?_
    show Steps p.tables e below (T1.setTop (mkF m 82 #[.val (.long xh), .second, .val (.long xl), .second, .val (.long xp), .second, .val (.long xq), .second, .val (.int xw), .val (.int xf), .val (.int (atF xw)), .val (.long (hF xh xf)), .second, .val (.long (lF xl xf)), .second, .val (.long (n1F xp xf)), .second, .val (.long (n2F xq xf)), .second, .val (.ref b1), .unset] [])) _
    refine XS.aload X1.here hx rfl (hb hby at_82) rfl rfl ?_
    show Steps p.tables e below (T1.setTop (mkF m 84 #[.val (.long xh), .second, .val (.long xl), .second, .val (.long xp), .second, .val (.long xq), .second, .val (.int xw), .val (.int xf), .val (.int (atF xw)), .val (.long (hF xh xf)), .second, .val (.long (lF xl xf)), .second, .val (.long (n1F xp xf)), .second, .val (.long (n2F xq xf)), .second, .val (.ref b1), .unset] [(.ref b1)])) _
    refine XS.iconst X1.here hx rfl (hb hby at_84) ?_
    show Steps p.tables e below (T1.setTop (mkF m 85 #[.val (.long xh), .second, .val (.long xl), .second, .val (.long xp), .second, .val (.long xq), .second, .val (.int xw), .val (.int xf), .val (.int (atF xw)), .val (.long (hF xh xf)), .second, .val (.long (lF xl xf)), .second, .val (.long (n1F xp xf)), .second, .val (.long (n2F xq xf)), .second, .val (.ref b1), .unset] [(.int (0 : Int32)), (.ref b1)])) _
    refine XS.lload X1.here hx rfl (hb hby at_85) rfl ?_
    show Steps p.tables e below (T1.setTop (mkF m 87 #[.val (.long xh), .second, .val (.long xl), .second, .val (.long xp), .second, .val (.long xq), .second, .val (.int xw), .val (.int xf), .val (.int (atF xw)), .val (.long (hF xh xf)), .second, .val (.long (lF xl xf)), .second, .val (.long (n1F xp xf)), .second, .val (.long (n2F xq xf)), .second, .val (.ref b1), .unset] [(.long (n1F xp xf)), (.int (0 : Int32)), (.ref b1)])) _
    refine st2 _ ?_
    show Steps p.tables e below (T2.setTop (mkF m 88 #[.val (.long xh), .second, .val (.long xl), .second, .val (.long xp), .second, .val (.long xq), .second, .val (.int xw), .val (.int xf), .val (.int (atF xw)), .val (.long (hF xh xf)), .second, .val (.long (lF xl xf)), .second, .val (.long (n1F xp xf)), .second, .val (.long (n2F xq xf)), .second, .val (.ref b1), .unset] [])) _
    refine XS.aload X2.here hx rfl (hb hby at_88) rfl rfl ?_
    show Steps p.tables e below (T2.setTop (mkF m 90 #[.val (.long xh), .second, .val (.long xl), .second, .val (.long xp), .second, .val (.long xq), .second, .val (.int xw), .val (.int xf), .val (.int (atF xw)), .val (.long (hF xh xf)), .second, .val (.long (lF xl xf)), .second, .val (.long (n1F xp xf)), .second, .val (.long (n2F xq xf)), .second, .val (.ref b1), .unset] [(.ref b1)])) _
    refine XS.iconst X2.here hx rfl (hb hby at_90) ?_
    show Steps p.tables e below (T2.setTop (mkF m 91 #[.val (.long xh), .second, .val (.long xl), .second, .val (.long xp), .second, .val (.long xq), .second, .val (.int xw), .val (.int xf), .val (.int (atF xw)), .val (.long (hF xh xf)), .second, .val (.long (lF xl xf)), .second, .val (.long (n1F xp xf)), .second, .val (.long (n2F xq xf)), .second, .val (.ref b1), .unset] [(.int (1 : Int32)), (.ref b1)])) _
    refine XS.lload X2.here hx rfl (hb hby at_91) rfl ?_
    show Steps p.tables e below (T2.setTop (mkF m 93 #[.val (.long xh), .second, .val (.long xl), .second, .val (.long xp), .second, .val (.long xq), .second, .val (.int xw), .val (.int xf), .val (.int (atF xw)), .val (.long (hF xh xf)), .second, .val (.long (lF xl xf)), .second, .val (.long (n1F xp xf)), .second, .val (.long (n2F xq xf)), .second, .val (.ref b1), .unset] [(.long (n2F xq xf)), (.int (1 : Int32)), (.ref b1)])) _
    refine st3 _ ?_
    show Steps p.tables e below (T3.setTop (mkF m 94 #[.val (.long xh), .second, .val (.long xl), .second, .val (.long xp), .second, .val (.long xq), .second, .val (.int xw), .val (.int xf), .val (.int (atF xw)), .val (.long (hF xh xf)), .second, .val (.long (lF xl xf)), .second, .val (.long (n1F xp xf)), .second, .val (.long (n2F xq xf)), .second, .val (.ref b1), .unset] [])) _
    refine XS.aload X3.here hx rfl (hb hby at_94) rfl rfl ?_
    show Steps p.tables e below (T3.setTop (mkF m 96 #[.val (.long xh), .second, .val (.long xl), .second, .val (.long xp), .second, .val (.long xq), .second, .val (.int xw), .val (.int xf), .val (.int (atF xw)), .val (.long (hF xh xf)), .second, .val (.long (lF xl xf)), .second, .val (.long (n1F xp xf)), .second, .val (.long (n2F xq xf)), .second, .val (.ref b1), .unset] [(.ref b1)])) _
    refine XS.iconst X3.here hx rfl (hb hby at_96) ?_
    show Steps p.tables e below (T3.setTop (mkF m 97 #[.val (.long xh), .second, .val (.long xl), .second, .val (.long xp), .second, .val (.long xq), .second, .val (.int xw), .val (.int xf), .val (.int (atF xw)), .val (.long (hF xh xf)), .second, .val (.long (lF xl xf)), .second, .val (.long (n1F xp xf)), .second, .val (.long (n2F xq xf)), .second, .val (.ref b1), .unset] [(.int (2 : Int32)), (.ref b1)])) _
    refine XS.lload X3.here hx rfl (hb hby at_97) rfl ?_
    show Steps p.tables e below (T3.setTop (mkF m 99 #[.val (.long xh), .second, .val (.long xl), .second, .val (.long xp), .second, .val (.long xq), .second, .val (.int xw), .val (.int xf), .val (.int (atF xw)), .val (.long (hF xh xf)), .second, .val (.long (lF xl xf)), .second, .val (.long (n1F xp xf)), .second, .val (.long (n2F xq xf)), .second, .val (.ref b1), .unset] [(.long (n2F xq xf)), (.int (2 : Int32)), (.ref b1)])) _
    refine st4 _ ?_
    show Steps p.tables e below (T4.setTop (mkF m 100 #[.val (.long xh), .second, .val (.long xl), .second, .val (.long xp), .second, .val (.long xq), .second, .val (.int xw), .val (.int xf), .val (.int (atF xw)), .val (.long (hF xh xf)), .second, .val (.long (lF xl xf)), .second, .val (.long (n1F xp xf)), .second, .val (.long (n2F xq xf)), .second, .val (.ref b1), .unset] [])) _
    refine XS.aload X4.here hx rfl (hb hby at_100) rfl rfl ?_
    show Steps p.tables e below (T4.setTop (mkF m 102 #[.val (.long xh), .second, .val (.long xl), .second, .val (.long xp), .second, .val (.long xq), .second, .val (.int xw), .val (.int xf), .val (.int (atF xw)), .val (.long (hF xh xf)), .second, .val (.long (lF xl xf)), .second, .val (.long (n1F xp xf)), .second, .val (.long (n2F xq xf)), .second, .val (.ref b1), .unset] [(.ref b1)])) _
    refine XS.iconst X4.here hx rfl (hb hby at_102) ?_
    show Steps p.tables e below (T4.setTop (mkF m 103 #[.val (.long xh), .second, .val (.long xl), .second, .val (.long xp), .second, .val (.long xq), .second, .val (.int xw), .val (.int xf), .val (.int (atF xw)), .val (.long (hF xh xf)), .second, .val (.long (lF xl xf)), .second, .val (.long (n1F xp xf)), .second, .val (.long (n2F xq xf)), .second, .val (.ref b1), .unset] [(.int (3 : Int32)), (.ref b1)])) _
    refine XS.lload X4.here hx rfl (hb hby at_103) rfl ?_
    show Steps p.tables e below (T4.setTop (mkF m 105 #[.val (.long xh), .second, .val (.long xl), .second, .val (.long xp), .second, .val (.long xq), .second, .val (.int xw), .val (.int xf), .val (.int (atF xw)), .val (.long (hF xh xf)), .second, .val (.long (lF xl xf)), .second, .val (.long (n1F xp xf)), .second, .val (.long (n2F xq xf)), .second, .val (.ref b1), .unset] [(.long (n1F xp xf)), (.int (3 : Int32)), (.ref b1)])) _
    refine X4.ldc2Long hx hown (mvT hZ (hw _ (List.mem_of_getElem? (i := 1) rfl))) (g := (mkF m 105 #[.val (.long xh), .second, .val (.long xl), .second, .val (.long xp), .second, .val (.long xq), .second, .val (.int xw), .val (.int xf), .val (.int (atF xw)), .val (.long (hF xh xf)), .second, .val (.long (lF xl xf)), .second, .val (.long (n1F xp xf)), .second, .val (.long (n2F xq xf)), .second, .val (.ref b1), .unset] [(.long (n1F xp xf)), (.int (3 : Int32)), (.ref b1)])) rfl (hb hby at_105) _ ?_
    show Steps p.tables e below (T4.setTop (mkF m 108 #[.val (.long xh), .second, .val (.long xl), .second, .val (.long xp), .second, .val (.long xq), .second, .val (.int xw), .val (.int xf), .val (.int (atF xw)), .val (.long (hF xh xf)), .second, .val (.long (lF xl xf)), .second, .val (.long (n1F xp xf)), .second, .val (.long (n2F xq xf)), .second, .val (.ref b1), .unset] [(.long (9223372036854775807 : Int64)), (.long (n1F xp xf)), (.int (3 : Int32)), (.ref b1)])) _
    refine XS.land X4.here hx rfl (hb hby at_108) rfl ?_
    show Steps p.tables e below (T4.setTop (mkF m 109 #[.val (.long xh), .second, .val (.long xl), .second, .val (.long xp), .second, .val (.long xq), .second, .val (.int xw), .val (.int xf), .val (.int (atF xw)), .val (.long (hF xh xf)), .second, .val (.long (lF xl xf)), .second, .val (.long (n1F xp xf)), .second, .val (.long (n2F xq xf)), .second, .val (.ref b1), .unset] [(.long ((n1F xp xf) &&& (9223372036854775807 : Int64))), (.int (3 : Int32)), (.ref b1)])) _
    refine st5 _ ?_
    show Steps p.tables e below (T5.setTop (mkF m 110 #[.val (.long xh), .second, .val (.long xl), .second, .val (.long xp), .second, .val (.long xq), .second, .val (.int xw), .val (.int xf), .val (.int (atF xw)), .val (.long (hF xh xf)), .second, .val (.long (lF xl xf)), .second, .val (.long (n1F xp xf)), .second, .val (.long (n2F xq xf)), .second, .val (.ref b1), .unset] [])) _
    refine XS.aload X5.here hx rfl (hb hby at_110) rfl rfl ?_
    show Steps p.tables e below (T5.setTop (mkF m 112 #[.val (.long xh), .second, .val (.long xl), .second, .val (.long xp), .second, .val (.long xq), .second, .val (.int xw), .val (.int xf), .val (.int (atF xw)), .val (.long (hF xh xf)), .second, .val (.long (lF xl xf)), .second, .val (.long (n1F xp xf)), .second, .val (.long (n2F xq xf)), .second, .val (.ref b1), .unset] [(.ref b1)])) _
    refine XS.iconst X5.here hx rfl (hb hby at_112) ?_
    show Steps p.tables e below (T5.setTop (mkF m 113 #[.val (.long xh), .second, .val (.long xl), .second, .val (.long xp), .second, .val (.long xq), .second, .val (.int xw), .val (.int xf), .val (.int (atF xw)), .val (.long (hF xh xf)), .second, .val (.long (lF xl xf)), .second, .val (.long (n1F xp xf)), .second, .val (.long (n2F xq xf)), .second, .val (.ref b1), .unset] [(.int (4 : Int32)), (.ref b1)])) _
    refine XS.lload X5.here hx rfl (hb hby at_113) rfl ?_
    show Steps p.tables e below (T5.setTop (mkF m 115 #[.val (.long xh), .second, .val (.long xl), .second, .val (.long xp), .second, .val (.long xq), .second, .val (.int xw), .val (.int xf), .val (.int (atF xw)), .val (.long (hF xh xf)), .second, .val (.long (lF xl xf)), .second, .val (.long (n1F xp xf)), .second, .val (.long (n2F xq xf)), .second, .val (.ref b1), .unset] [(.long (n1F xp xf)), (.int (4 : Int32)), (.ref b1)])) _
    refine st6 _ ?_
    show Steps p.tables e below (T6.setTop (mkF m 116 #[.val (.long xh), .second, .val (.long xl), .second, .val (.long xp), .second, .val (.long xq), .second, .val (.int xw), .val (.int xf), .val (.int (atF xw)), .val (.long (hF xh xf)), .second, .val (.long (lF xl xf)), .second, .val (.long (n1F xp xf)), .second, .val (.long (n2F xq xf)), .second, .val (.ref b1), .unset] [])) _
    refine XS.aload X6.here hx rfl (hb hby at_116) rfl rfl ?_
    show Steps p.tables e below (T6.setTop (mkF m 118 #[.val (.long xh), .second, .val (.long xl), .second, .val (.long xp), .second, .val (.long xq), .second, .val (.int xw), .val (.int xf), .val (.int (atF xw)), .val (.long (hF xh xf)), .second, .val (.long (lF xl xf)), .second, .val (.long (n1F xp xf)), .second, .val (.long (n2F xq xf)), .second, .val (.ref b1), .unset] [(.ref b1)])) _
    refine XS.iconst X6.here hx rfl (hb hby at_118) ?_
    show Steps p.tables e below (T6.setTop (mkF m 119 #[.val (.long xh), .second, .val (.long xl), .second, .val (.long xp), .second, .val (.long xq), .second, .val (.int xw), .val (.int xf), .val (.int (atF xw)), .val (.long (hF xh xf)), .second, .val (.long (lF xl xf)), .second, .val (.long (n1F xp xf)), .second, .val (.long (n2F xq xf)), .second, .val (.ref b1), .unset] [(.int (5 : Int32)), (.ref b1)])) _
    refine XS.lload X6.here hx rfl (hb hby at_119) rfl ?_
    show Steps p.tables e below (T6.setTop (mkF m 121 #[.val (.long xh), .second, .val (.long xl), .second, .val (.long xp), .second, .val (.long xq), .second, .val (.int xw), .val (.int xf), .val (.int (atF xw)), .val (.long (hF xh xf)), .second, .val (.long (lF xl xf)), .second, .val (.long (n1F xp xf)), .second, .val (.long (n2F xq xf)), .second, .val (.ref b1), .unset] [(.long (n2F xq xf)), (.int (5 : Int32)), (.ref b1)])) _
    refine st7 _ ?_
    show Steps p.tables e below (T7.setTop (mkF m 122 #[.val (.long xh), .second, .val (.long xl), .second, .val (.long xp), .second, .val (.long xq), .second, .val (.int xw), .val (.int xf), .val (.int (atF xw)), .val (.long (hF xh xf)), .second, .val (.long (lF xl xf)), .second, .val (.long (n1F xp xf)), .second, .val (.long (n2F xq xf)), .second, .val (.ref b1), .unset] [])) _
    refine XS.aload X7.here hx rfl (hb hby at_122) rfl rfl ?_
    show Steps p.tables e below (T7.setTop (mkF m 124 #[.val (.long xh), .second, .val (.long xl), .second, .val (.long xp), .second, .val (.long xq), .second, .val (.int xw), .val (.int xf), .val (.int (atF xw)), .val (.long (hF xh xf)), .second, .val (.long (lF xl xf)), .second, .val (.long (n1F xp xf)), .second, .val (.long (n2F xq xf)), .second, .val (.ref b1), .unset] [(.ref b1)])) _
    refine XS.iconst X7.here hx rfl (hb hby at_124) ?_
    show Steps p.tables e below (T7.setTop (mkF m 125 #[.val (.long xh), .second, .val (.long xl), .second, .val (.long xp), .second, .val (.long xq), .second, .val (.int xw), .val (.int xf), .val (.int (atF xw)), .val (.long (hF xh xf)), .second, .val (.long (lF xl xf)), .second, .val (.long (n1F xp xf)), .second, .val (.long (n2F xq xf)), .second, .val (.ref b1), .unset] [(.int (2 : Int32)), (.ref b1)])) _
    refine XS.iload X7.here hx rfl (hb hby at_125) rfl ?_
    show Steps p.tables e below (T7.setTop (mkF m 127 #[.val (.long xh), .second, .val (.long xl), .second, .val (.long xp), .second, .val (.long xq), .second, .val (.int xw), .val (.int xf), .val (.int (atF xw)), .val (.long (hF xh xf)), .second, .val (.long (lF xl xf)), .second, .val (.long (n1F xp xf)), .second, .val (.long (n2F xq xf)), .second, .val (.ref b1), .unset] [(.int (atF xw)), (.int (2 : Int32)), (.ref b1)])) _
    refine XS.imul X7.here hx rfl (hb hby at_127) rfl ?_
    show Steps p.tables e below (T7.setTop (mkF m 128 #[.val (.long xh), .second, .val (.long xl), .second, .val (.long xp), .second, .val (.long xq), .second, .val (.int xw), .val (.int xf), .val (.int (atF xw)), .val (.long (hF xh xf)), .second, .val (.long (lF xl xf)), .second, .val (.long (n1F xp xf)), .second, .val (.long (n2F xq xf)), .second, .val (.ref b1), .unset] [(.int ((2 : Int32) * (atF xw))), (.ref b1)])) _
    refine XS.lload X7.here hx rfl (hb hby at_128) rfl ?_
    show Steps p.tables e below (T7.setTop (mkF m 130 #[.val (.long xh), .second, .val (.long xl), .second, .val (.long xp), .second, .val (.long xq), .second, .val (.int xw), .val (.int xf), .val (.int (atF xw)), .val (.long (hF xh xf)), .second, .val (.long (lF xl xf)), .second, .val (.long (n1F xp xf)), .second, .val (.long (n2F xq xf)), .second, .val (.ref b1), .unset] [(.long (hF xh xf)), (.int ((2 : Int32) * (atF xw))), (.ref b1)])) _
    refine st8 _ ?_
    show Steps p.tables e below (T8.setTop (mkF m 131 #[.val (.long xh), .second, .val (.long xl), .second, .val (.long xp), .second, .val (.long xq), .second, .val (.int xw), .val (.int xf), .val (.int (atF xw)), .val (.long (hF xh xf)), .second, .val (.long (lF xl xf)), .second, .val (.long (n1F xp xf)), .second, .val (.long (n2F xq xf)), .second, .val (.ref b1), .unset] [])) _
    refine XS.aload X8.here hx rfl (hb hby at_131) rfl rfl ?_
    show Steps p.tables e below (T8.setTop (mkF m 133 #[.val (.long xh), .second, .val (.long xl), .second, .val (.long xp), .second, .val (.long xq), .second, .val (.int xw), .val (.int xf), .val (.int (atF xw)), .val (.long (hF xh xf)), .second, .val (.long (lF xl xf)), .second, .val (.long (n1F xp xf)), .second, .val (.long (n2F xq xf)), .second, .val (.ref b1), .unset] [(.ref b1)])) _
    refine XS.iconst X8.here hx rfl (hb hby at_133) ?_
    show Steps p.tables e below (T8.setTop (mkF m 134 #[.val (.long xh), .second, .val (.long xl), .second, .val (.long xp), .second, .val (.long xq), .second, .val (.int xw), .val (.int xf), .val (.int (atF xw)), .val (.long (hF xh xf)), .second, .val (.long (lF xl xf)), .second, .val (.long (n1F xp xf)), .second, .val (.long (n2F xq xf)), .second, .val (.ref b1), .unset] [(.int (2 : Int32)), (.ref b1)])) _
    refine XS.iload X8.here hx rfl (hb hby at_134) rfl ?_
    show Steps p.tables e below (T8.setTop (mkF m 136 #[.val (.long xh), .second, .val (.long xl), .second, .val (.long xp), .second, .val (.long xq), .second, .val (.int xw), .val (.int xf), .val (.int (atF xw)), .val (.long (hF xh xf)), .second, .val (.long (lF xl xf)), .second, .val (.long (n1F xp xf)), .second, .val (.long (n2F xq xf)), .second, .val (.ref b1), .unset] [(.int (atF xw)), (.int (2 : Int32)), (.ref b1)])) _
    refine XS.imul X8.here hx rfl (hb hby at_136) rfl ?_
    show Steps p.tables e below (T8.setTop (mkF m 137 #[.val (.long xh), .second, .val (.long xl), .second, .val (.long xp), .second, .val (.long xq), .second, .val (.int xw), .val (.int xf), .val (.int (atF xw)), .val (.long (hF xh xf)), .second, .val (.long (lF xl xf)), .second, .val (.long (n1F xp xf)), .second, .val (.long (n2F xq xf)), .second, .val (.ref b1), .unset] [(.int ((2 : Int32) * (atF xw))), (.ref b1)])) _
    refine XS.iconst X8.here hx rfl (hb hby at_137) ?_
    show Steps p.tables e below (T8.setTop (mkF m 138 #[.val (.long xh), .second, .val (.long xl), .second, .val (.long xp), .second, .val (.long xq), .second, .val (.int xw), .val (.int xf), .val (.int (atF xw)), .val (.long (hF xh xf)), .second, .val (.long (lF xl xf)), .second, .val (.long (n1F xp xf)), .second, .val (.long (n2F xq xf)), .second, .val (.ref b1), .unset] [(.int (1 : Int32)), (.int ((2 : Int32) * (atF xw))), (.ref b1)])) _
    refine XS.iadd X8.here hx rfl (hb hby at_138) rfl ?_
    show Steps p.tables e below (T8.setTop (mkF m 139 #[.val (.long xh), .second, .val (.long xl), .second, .val (.long xp), .second, .val (.long xq), .second, .val (.int xw), .val (.int xf), .val (.int (atF xw)), .val (.long (hF xh xf)), .second, .val (.long (lF xl xf)), .second, .val (.long (n1F xp xf)), .second, .val (.long (n2F xq xf)), .second, .val (.ref b1), .unset] [(.int (((2 : Int32) * (atF xw)) + (1 : Int32))), (.ref b1)])) _
    refine XS.lload X8.here hx rfl (hb hby at_139) rfl ?_
    show Steps p.tables e below (T8.setTop (mkF m 141 #[.val (.long xh), .second, .val (.long xl), .second, .val (.long xp), .second, .val (.long xq), .second, .val (.int xw), .val (.int xf), .val (.int (atF xw)), .val (.long (hF xh xf)), .second, .val (.long (lF xl xf)), .second, .val (.long (n1F xp xf)), .second, .val (.long (n2F xq xf)), .second, .val (.ref b1), .unset] [(.long (lF xl xf)), (.int (((2 : Int32) * (atF xw)) + (1 : Int32))), (.ref b1)])) _
    refine st9 _ ?_
    show Steps p.tables e below (T9.setTop (mkF m 142 #[.val (.long xh), .second, .val (.long xl), .second, .val (.long xp), .second, .val (.long xq), .second, .val (.int xw), .val (.int xf), .val (.int (atF xw)), .val (.long (hF xh xf)), .second, .val (.long (lF xl xf)), .second, .val (.long (n1F xp xf)), .second, .val (.long (n2F xq xf)), .second, .val (.ref b1), .unset] [])) _
    refine XS.lload X9.here hx rfl (hb hby at_142) rfl ?_
    show Steps p.tables e below (T9.setTop (mkF m 144 #[.val (.long xh), .second, .val (.long xl), .second, .val (.long xp), .second, .val (.long xq), .second, .val (.int xw), .val (.int xf), .val (.int (atF xw)), .val (.long (hF xh xf)), .second, .val (.long (lF xl xf)), .second, .val (.long (n1F xp xf)), .second, .val (.long (n2F xq xf)), .second, .val (.ref b1), .unset] [(.long (hF xh xf))])) _
    refine XS.lconst X9.here hx rfl (hb hby at_144) ?_
    show Steps p.tables e below (T9.setTop (mkF m 145 #[.val (.long xh), .second, .val (.long xl), .second, .val (.long xp), .second, .val (.long xq), .second, .val (.int xw), .val (.int xf), .val (.int (atF xw)), .val (.long (hF xh xf)), .second, .val (.long (lF xl xf)), .second, .val (.long (n1F xp xf)), .second, .val (.long (n2F xq xf)), .second, .val (.ref b1), .unset] [(.long (0 : Int64)), (.long (hF xh xf))])) _
    refine XS.lcmp X9.here hx rfl (hb hby at_145) rfl ?_
    show Steps p.tables e below (T9.setTop (mkF m 146 #[.val (.long xh), .second, .val (.long xl), .second, .val (.long xp), .second, .val (.long xq), .second, .val (.int xw), .val (.int xf), .val (.int (atF xw)), .val (.long (hF xh xf)), .second, .val (.long (lF xl xf)), .second, .val (.long (n1F xp xf)), .second, .val (.long (n2F xq xf)), .second, .val (.ref b1), .unset] [(.int (lcmpW (hF xh xf) (0 : Int64)))])) _
    suffices J146 : Steps p.tables e below (T9.setTop (mkF m 161 #[.val (.long xh), .second, .val (.long xl), .second, .val (.long xp), .second, .val (.long xq), .second, .val (.int xw), .val (.int xf), .val (.int (atF xw)), .val (.long (hF xh xf)), .second, .val (.long (lF xl xf)), .second, .val (.long (n1F xp xf)), .second, .val (.long (n2F xq xf)), .second, .val (.ref b1), .unset] [(.int (zeroF (hF xh xf) (lF xl xf)))])) (T10.setFrames fs) by
      by_cases h146 : (hF xh xf) = (0 : Int64)
      · refine XS.ifNo X9.here hx rfl (hb hby at_146) rfl ((if0 _ _).trans (teq ((lw_eq _ _).2 h146)).2) ?_
        show Steps p.tables e below (T9.setTop (mkF m 149 #[.val (.long xh), .second, .val (.long xl), .second, .val (.long xp), .second, .val (.long xq), .second, .val (.int xw), .val (.int xf), .val (.int (atF xw)), .val (.long (hF xh xf)), .second, .val (.long (lF xl xf)), .second, .val (.long (n1F xp xf)), .second, .val (.long (n2F xq xf)), .second, .val (.ref b1), .unset] [])) _
        refine XS.lload X9.here hx rfl (hb hby at_149) rfl ?_
        show Steps p.tables e below (T9.setTop (mkF m 151 #[.val (.long xh), .second, .val (.long xl), .second, .val (.long xp), .second, .val (.long xq), .second, .val (.int xw), .val (.int xf), .val (.int (atF xw)), .val (.long (hF xh xf)), .second, .val (.long (lF xl xf)), .second, .val (.long (n1F xp xf)), .second, .val (.long (n2F xq xf)), .second, .val (.ref b1), .unset] [(.long (lF xl xf))])) _
        refine XS.lconst X9.here hx rfl (hb hby at_151) ?_
        show Steps p.tables e below (T9.setTop (mkF m 152 #[.val (.long xh), .second, .val (.long xl), .second, .val (.long xp), .second, .val (.long xq), .second, .val (.int xw), .val (.int xf), .val (.int (atF xw)), .val (.long (hF xh xf)), .second, .val (.long (lF xl xf)), .second, .val (.long (n1F xp xf)), .second, .val (.long (n2F xq xf)), .second, .val (.ref b1), .unset] [(.long (0 : Int64)), (.long (lF xl xf))])) _
        refine XS.lcmp X9.here hx rfl (hb hby at_152) rfl ?_
        show Steps p.tables e below (T9.setTop (mkF m 153 #[.val (.long xh), .second, .val (.long xl), .second, .val (.long xp), .second, .val (.long xq), .second, .val (.int xw), .val (.int xf), .val (.int (atF xw)), .val (.long (hF xh xf)), .second, .val (.long (lF xl xf)), .second, .val (.long (n1F xp xf)), .second, .val (.long (n2F xq xf)), .second, .val (.ref b1), .unset] [(.int (lcmpW (lF xl xf) (0 : Int64)))])) _
        by_cases h153 : (lF xl xf) = (0 : Int64)
        · refine XS.ifNo X9.here hx rfl (hb hby at_153) rfl ((if0 _ _).trans (teq ((lw_eq _ _).2 h153)).2) ?_
          show Steps p.tables e below (T9.setTop (mkF m 156 #[.val (.long xh), .second, .val (.long xl), .second, .val (.long xp), .second, .val (.long xq), .second, .val (.int xw), .val (.int xf), .val (.int (atF xw)), .val (.long (hF xh xf)), .second, .val (.long (lF xl xf)), .second, .val (.long (n1F xp xf)), .second, .val (.long (n2F xq xf)), .second, .val (.ref b1), .unset] [])) _
          refine XS.iconst X9.here hx rfl (hb hby at_156) ?_
          show Steps p.tables e below (T9.setTop (mkF m 157 #[.val (.long xh), .second, .val (.long xl), .second, .val (.long xp), .second, .val (.long xq), .second, .val (.int xw), .val (.int xf), .val (.int (atF xw)), .val (.long (hF xh xf)), .second, .val (.long (lF xl xf)), .second, .val (.long (n1F xp xf)), .second, .val (.long (n2F xq xf)), .second, .val (.ref b1), .unset] [(.int (1 : Int32))])) _
          refine XS.goto X9.here hx rfl (pc0 := 157) (pc' := 161) rfl (hb hby at_157) (by decide) (by decide) ?_
          show Steps p.tables e below (T9.setTop (mkF m 161 #[.val (.long xh), .second, .val (.long xl), .second, .val (.long xp), .second, .val (.long xq), .second, .val (.int xw), .val (.int xf), .val (.int (atF xw)), .val (.long (hF xh xf)), .second, .val (.long (lF xl xf)), .second, .val (.long (n1F xp xf)), .second, .val (.long (n2F xq xf)), .second, .val (.ref b1), .unset] [(.int (1 : Int32))])) _
          rw [show (zeroF (hF xh xf) (lF xl xf)) = (1 : Int32) from by simp only [zeroF, h146, h153, eq_self, if_true, if_false]] at J146
          exact J146
        · refine XS.ifYes X9.here hx rfl (pc0 := 153) (pc' := 160) rfl (hb hby at_153) rfl ((if0 _ _).trans (feq (fun q => h153 ((lw_eq _ _).1 q))).2) (by decide) (by decide) ?_
          show Steps p.tables e below (T9.setTop (mkF m 160 #[.val (.long xh), .second, .val (.long xl), .second, .val (.long xp), .second, .val (.long xq), .second, .val (.int xw), .val (.int xf), .val (.int (atF xw)), .val (.long (hF xh xf)), .second, .val (.long (lF xl xf)), .second, .val (.long (n1F xp xf)), .second, .val (.long (n2F xq xf)), .second, .val (.ref b1), .unset] [])) _
          refine XS.iconst X9.here hx rfl (hb hby at_160) ?_
          show Steps p.tables e below (T9.setTop (mkF m 161 #[.val (.long xh), .second, .val (.long xl), .second, .val (.long xp), .second, .val (.long xq), .second, .val (.int xw), .val (.int xf), .val (.int (atF xw)), .val (.long (hF xh xf)), .second, .val (.long (lF xl xf)), .second, .val (.long (n1F xp xf)), .second, .val (.long (n2F xq xf)), .second, .val (.ref b1), .unset] [(.int (0 : Int32))])) _
          rw [show (zeroF (hF xh xf) (lF xl xf)) = (0 : Int32) from by simp only [zeroF, h146, h153, eq_self, if_true, if_false]] at J146
          exact J146
      · refine XS.ifYes X9.here hx rfl (pc0 := 146) (pc' := 160) rfl (hb hby at_146) rfl ((if0 _ _).trans (feq (fun q => h146 ((lw_eq _ _).1 q))).2) (by decide) (by decide) ?_
        show Steps p.tables e below (T9.setTop (mkF m 160 #[.val (.long xh), .second, .val (.long xl), .second, .val (.long xp), .second, .val (.long xq), .second, .val (.int xw), .val (.int xf), .val (.int (atF xw)), .val (.long (hF xh xf)), .second, .val (.long (lF xl xf)), .second, .val (.long (n1F xp xf)), .second, .val (.long (n2F xq xf)), .second, .val (.ref b1), .unset] [])) _
        refine XS.iconst X9.here hx rfl (hb hby at_160) ?_
        show Steps p.tables e below (T9.setTop (mkF m 161 #[.val (.long xh), .second, .val (.long xl), .second, .val (.long xp), .second, .val (.long xq), .second, .val (.int xw), .val (.int xf), .val (.int (atF xw)), .val (.long (hF xh xf)), .second, .val (.long (lF xl xf)), .second, .val (.long (n1F xp xf)), .second, .val (.long (n2F xq xf)), .second, .val (.ref b1), .unset] [(.int (0 : Int32))])) _
        rw [show (zeroF (hF xh xf) (lF xl xf)) = (0 : Int32) from by simp only [zeroF, h146, eq_self, if_true, if_false]] at J146
        exact J146
    show Steps p.tables e below (T9.setTop (mkF m 161 #[.val (.long xh), .second, .val (.long xl), .second, .val (.long xp), .second, .val (.long xq), .second, .val (.int xw), .val (.int xf), .val (.int (atF xw)), .val (.long (hF xh xf)), .second, .val (.long (lF xl xf)), .second, .val (.long (n1F xp xf)), .second, .val (.long (n2F xq xf)), .second, .val (.ref b1), .unset] [(.int (zeroF (hF xh xf) (lF xl xf)))])) _
    refine XS.istore X9.here hx rfl (hb hby at_161) rfl (l' := #[.val (.long xh), .second, .val (.long xl), .second, .val (.long xp), .second, .val (.long xq), .second, .val (.int xw), .val (.int xf), .val (.int (atF xw)), .val (.long (hF xh xf)), .second, .val (.long (lF xl xf)), .second, .val (.long (n1F xp xf)), .second, .val (.long (n2F xq xf)), .second, .val (.ref b1), .val (.int (zeroF (hF xh xf) (lF xl xf)))]) rfl ?_
    show Steps p.tables e below (T9.setTop (mkF m 163 #[.val (.long xh), .second, .val (.long xl), .second, .val (.long xp), .second, .val (.long xq), .second, .val (.int xw), .val (.int xf), .val (.int (atF xw)), .val (.long (hF xh xf)), .second, .val (.long (lF xl xf)), .second, .val (.long (n1F xp xf)), .second, .val (.long (n2F xq xf)), .second, .val (.ref b1), .val (.int (zeroF (hF xh xf) (lF xl xf)))] [])) _
    refine XS.aload X9.here hx rfl (hb hby at_163) rfl rfl ?_
    show Steps p.tables e below (T9.setTop (mkF m 165 #[.val (.long xh), .second, .val (.long xl), .second, .val (.long xp), .second, .val (.long xq), .second, .val (.int xw), .val (.int xf), .val (.int (atF xw)), .val (.long (hF xh xf)), .second, .val (.long (lF xl xf)), .second, .val (.long (n1F xp xf)), .second, .val (.long (n2F xq xf)), .second, .val (.ref b1), .val (.int (zeroF (hF xh xf) (lF xl xf)))] [(.ref b1)])) _
    refine XS.iload X9.here hx rfl (hb hby at_165) rfl ?_
    show Steps p.tables e below (T9.setTop (mkF m 167 #[.val (.long xh), .second, .val (.long xl), .second, .val (.long xp), .second, .val (.long xq), .second, .val (.int xw), .val (.int xf), .val (.int (atF xw)), .val (.long (hF xh xf)), .second, .val (.long (lF xl xf)), .second, .val (.long (n1F xp xf)), .second, .val (.long (n2F xq xf)), .second, .val (.ref b1), .val (.int (zeroF (hF xh xf) (lF xl xf)))] [(.int (atF xw)), (.ref b1)])) _
    refine st10 _ ?_
    show Steps p.tables e below (T10.setTop (mkF m 170 #[.val (.long xh), .second, .val (.long xl), .second, .val (.long xp), .second, .val (.long xq), .second, .val (.int xw), .val (.int xf), .val (.int (atF xw)), .val (.long (hF xh xf)), .second, .val (.long (lF xl xf)), .second, .val (.long (n1F xp xf)), .second, .val (.long (n2F xq xf)), .second, .val (.ref b1), .val (.int (zeroF (hF xh xf) (lF xl xf)))] [(.int (zeroF (hF xh xf) (lF xl xf)))])) _
    refine XS.iload X10.here hx rfl (hb hby at_170) rfl ?_
    show Steps p.tables e below (T10.setTop (mkF m 172 #[.val (.long xh), .second, .val (.long xl), .second, .val (.long xp), .second, .val (.long xq), .second, .val (.int xw), .val (.int xf), .val (.int (atF xw)), .val (.long (hF xh xf)), .second, .val (.long (lF xl xf)), .second, .val (.long (n1F xp xf)), .second, .val (.long (n2F xq xf)), .second, .val (.ref b1), .val (.int (zeroF (hF xh xf) (lF xl xf)))] [(.int (zeroF (hF xh xf) (lF xl xf))), (.int (zeroF (hF xh xf) (lF xl xf)))])) _
    by_cases h172 : (zeroF (hF xh xf) (lF xl xf)) = (zeroF (hF xh xf) (lF xl xf))
    · refine XS.icmpNo X10.here hx rfl (hb hby at_172) rfl (teq h172).2 ?_
      show Steps p.tables e below (T10.setTop (mkF m 175 #[.val (.long xh), .second, .val (.long xl), .second, .val (.long xp), .second, .val (.long xq), .second, .val (.int xw), .val (.int xf), .val (.int (atF xw)), .val (.long (hF xh xf)), .second, .val (.long (lF xl xf)), .second, .val (.long (n1F xp xf)), .second, .val (.long (n2F xq xf)), .second, .val (.ref b1), .val (.int (zeroF (hF xh xf) (lF xl xf)))] [])) _
      refine XS.iconst X10.here hx rfl (hb hby at_175) ?_
      show Steps p.tables e below (T10.setTop (mkF m 176 #[.val (.long xh), .second, .val (.long xl), .second, .val (.long xp), .second, .val (.long xq), .second, .val (.int xw), .val (.int xf), .val (.int (atF xw)), .val (.long (hF xh xf)), .second, .val (.long (lF xl xf)), .second, .val (.long (n1F xp xf)), .second, .val (.long (n2F xq xf)), .second, .val (.ref b1), .val (.int (zeroF (hF xh xf) (lF xl xf)))] [(.int (1 : Int32))])) _
      refine XS.goto X10.here hx rfl (pc0 := 176) (pc' := 180) rfl (hb hby at_176) (by decide) (by decide) ?_
      show Steps p.tables e below (T10.setTop (mkF m 180 #[.val (.long xh), .second, .val (.long xl), .second, .val (.long xp), .second, .val (.long xq), .second, .val (.int xw), .val (.int xf), .val (.int (atF xw)), .val (.long (hF xh xf)), .second, .val (.long (lF xl xf)), .second, .val (.long (n1F xp xf)), .second, .val (.long (n2F xq xf)), .second, .val (.ref b1), .val (.int (zeroF (hF xh xf) (lF xl xf)))] [(.int (1 : Int32))])) _
      exact retN X10 hx (t := .boolean) Bd.returns (by simp) (hb hby at_180) (by rw [show nar .boolean (1 : Int32) = (lawF xh xl xf) from (own_nar1).trans (by rw [lawF, if_pos h172])]; exact hr)
    · refine XS.icmpYes X10.here hx rfl (pc0 := 172) (pc' := 179) rfl (hb hby at_172) rfl (feq h172).2 (by decide) (by decide) ?_
      show Steps p.tables e below (T10.setTop (mkF m 179 #[.val (.long xh), .second, .val (.long xl), .second, .val (.long xp), .second, .val (.long xq), .second, .val (.int xw), .val (.int xf), .val (.int (atF xw)), .val (.long (hF xh xf)), .second, .val (.long (lF xl xf)), .second, .val (.long (n1F xp xf)), .second, .val (.long (n2F xq xf)), .second, .val (.ref b1), .val (.int (zeroF (hF xh xf) (lF xl xf)))] [])) _
      refine XS.iconst X10.here hx rfl (hb hby at_179) ?_
      show Steps p.tables e below (T10.setTop (mkF m 180 #[.val (.long xh), .second, .val (.long xl), .second, .val (.long xp), .second, .val (.long xq), .second, .val (.int xw), .val (.int xf), .val (.int (atF xw)), .val (.long (hF xh xf)), .second, .val (.long (lF xl xf)), .second, .val (.long (n1F xp xf)), .second, .val (.long (n2F xq xf)), .second, .val (.ref b1), .val (.int (zeroF (hF xh xf) (lF xl xf)))] [(.int (0 : Int32))])) _
      exact retN X10 hx (t := .boolean) Bd.returns (by simp) (hb hby at_180) (by rw [show nar .boolean (0 : Int32) = (lawF xh xl xf) from (own_nar0).trans (by rw [lawF, if_neg h172])]; exact hr)
  · show Q_law Z xh xl xp xq xw xf h0 n0 _ T10.heap _
    exact ⟨rfl, N10, trivial⟩
set_option maxRecDepth 65536 in
set_option maxHeartbeats 40000000 in
theorem comes_1 {Post : Tables → Env → Array Value → State → Outcome → State → Prop} (hpost : ∀ tb e args s v u, (limb_1_1.after args s (.returned v) u = true ∧ limb_1_2.after args s (.returned v) u = true ∧ True) → FrameEnd s (.returned v) u (Jvm.fieldLocs frame_1_writes args s ++ Jvm.arrayLocs frame_1_arrays args s ++ Jvm.staticLocs frame_1_statics s) 16 128 → Post tb e args s (.returned v) u) :
    ArmFor flags0 classFile x code maxLocals ret World_1 tables_1 room_1 Calls_1 rest_1 Pre_1 Post := by
  intro l hfl _ _ p e ha hc hk s m args below hf hA hF happ hP
  obtain ⟨hcalls, hrest, hpre⟩ := hP
  obtain ⟨-, -, -, hnamed, -, -, -, hat⟩ := (Spec.applies_iff hf).mp happ
  obtain ⟨hg, hn⟩ := and_e (Cond.before_iff.mp (show (Jvm.Cond.and given_1 narrow_1).before args s = true from hpre))
  obtain ⟨gc, g0⟩ := and_e hg
  obtain ⟨k0, g1⟩ := and_e g0
  obtain ⟨k1, g2⟩ := and_e g1
  obtain ⟨k2, g3⟩ := and_e g2
  obtain ⟨k3, g4⟩ := and_e g3
  obtain ⟨k4, g5⟩ := and_e g4
  have k5 := g5
  obtain ⟨w0, w1, w2, w3, w4, w5, rfl⟩ : ∃ w0 w1 w2 w3 w4 w5 : Value, args = #[w0, w1, w2, w3, w4, w5] := by
    have hs : args.size = 6 := by simpa [Cond.value, given_1] using gc
    obtain ⟨L⟩ := args
    match L, hs with
    | [w0, w1, w2, w3, w4, w5], _ => exact ⟨w0, w1, w2, w3, w4, w5, rfl⟩
  have hw := fun d (hd : d ∈ tables_1) => atoms_spec (ws := Jvm.Cond.code x code maxLocals ret :: tables_1) hat d (List.mem_cons_of_mem _ hd)
  obtain ⟨i0, ei0⟩ := isL_v k0
  obtain rfl : w0 = (.long i0) := Option.some.inj ei0
  obtain ⟨i1, ei1⟩ := isL_v k1
  obtain rfl : w1 = (.long i1) := Option.some.inj ei1
  obtain ⟨i2, ei2⟩ := isL_v k2
  obtain rfl : w2 = (.long i2) := Option.some.inj ei2
  obtain ⟨i3, ei3⟩ := isL_v k3
  obtain rfl : w3 = (.long i3) := Option.some.inj ei3
  obtain ⟨i4, ei4⟩ := is_v k4
  obtain rfl : w4 = (.int i4) := Option.some.inj ei4
  obtain ⟨i5, ei5⟩ := is_v k5
  obtain rfl : w5 = (.int i5) := Option.some.inj ei5
  obtain ⟨n, o, h1, h2, h3, v, L, rfl, hQ, hq⟩ := rm_law l s _ hw tables_1 i0 i1 i2 i3 i4 i5 s.heap s.heap.size (Nat.le_refl _)  p e ha hc hk s m _ below hf ((Spec.applies_iff_loose hf).mp happ).1 ⟨rfl, State.Warmed39.refl s, rfl⟩ trivial
  have hv : v = some (.int 1) := hQ.1.trans (by rw [lawF_one])
  subst hv
  have N := hQ.2.1
  refine ⟨n, _, h1, h2, h3, hpost _ _ _ _ _ _ ⟨Cond.after_iff.mpr rfl, Cond.after_iff.mpr (eq_i res_at (Term.int_eval (1)) rfl), trivial⟩ ⟨hq.1, hq.2.1, (hq.2.2.sift fun y hy => Or.inr (N y hy)).mono (by decide) (by decide)⟩⟩
theorem main_1_1 : Claimed_1_1 := comes_1 fun _ _ _ _ _ _ h hF => ⟨h.1, hF⟩
theorem main_1_2 : Claimed_1_2 := comes_1 fun _ _ _ _ _ _ h hF => ⟨h.2.1, hF⟩
end Jvm.Pilot.@@N@@
namespace Jvm.Pilot.@@N@@
open Jvm Jvm.ClassFile Sem Op Lib Jvm.Free Jvm.Stand Jvm.Pilot.@@N@@.Jvm.D
/-! MADE BY PROGRAM (witnessworld.py) out of the Statement's table words and the real class files: 11 classes; the members and pool entries that the words name. The judged class is class 1, her method 1. -/
namespace start1
open Jvm.ClassFile
def u (s : String) : CpInfo := .utf8 (stringToUtf16 s)
/-- a pool by its gaps: so many unusable entries, then the entry; so many at the end -/
def gap : Nat → List CpInfo → List CpInfo
  | 0, r => r
  | n + 1, r => .unusable :: gap n r
def poolList (es : List (Nat × CpInfo)) (last : Nat) : List CpInfo := es.foldr (fun e r => gap e.1 (e.2 :: r)) (gap last [])
def pool (es : List (Nat × CpInfo)) (last : Nat) : Array CpInfo := ⟨poolList es last⟩
def fileOf (pool : Array CpInfo) (this : Nat) (attrs : Array Attribute := #[]) (ms : Array MethodInfo := #[]) (fl : Nat := 33) (sup : Nat := 0) (ifs : Array Nat := #[]) (fds : Array FieldInfo := #[]) : ClassFile where
  minorVersion := 0
  majorVersion := 65
  constantPool := pool
  accessFlags := fl
  thisClass := this
  superClass := sup
  interfaces := ifs
  fields := fds
  methods := ms
  attributes := attrs
def plain (name : String) (sup : Option ClassId) : Class where
  name := name
  kind := .ordinary
  loader := none
  accessFlags := 33
  super := sup
  interfaces := #[]
  cf := none
  fields := #[]
  methods := #[]
  instanceTypes := #[]
  staticTypes := #[]
  resolved := #[]
  callSites := []
  init := .initialized
  statics := none
  mirror := none

def pool0 : Array CpInfo := pool [(5, u "<init>"), (0, u "()V"), (1, .class_ 10), (1, u "java/lang/Object")] 113

def k0m0 : Method := { name := "<init>", desc := "()V", sig := { parameters := [], returnType := none }, accessFlags := 1, code := none }
/-- java/lang/Object -/
def k0 : Class := { plain "java/lang/Object" none with
  accessFlags := 33
  interfaces := #[]
  cf := some (fileOf pool0 8 #[] #[{ accessFlags := 1, nameIndex := 5, descriptorIndex := 6, attributes := #[] }] 33 0 #[] #[])
  fields := #[]
  methods := #[k0m0]
  instanceTypes := #[]
  staticTypes := #[]
  resolved := Array.replicate 124 none
  statics := none }

def pool1 : Array CpInfo := pool [(2, .class_ 4), (1, u "java/lang/Object"), (0, u "<init>"), (0, u "()V"), (0, .integer 2147483647), (2, .long 9223372036854775807), (1, .methodref 13 14), (0, .class_ 15), (0, .nameAndType 16 17), (0, u "com/example/servloom/servloom/compose/Amount"), (0, u "zero"), (0, u "([JI)Z"), (0, .class_ 19), (0, u "com/example/servloom/servloom/compose/AmountZeroPinLaw"), (2, u "law"), (0, u "(JJJJII)Z")] 5

def k1m0 : Method := { name := "<init>", desc := "()V", sig := { parameters := [], returnType := none }, accessFlags := 1, code := none }
def k1c1 : Code := { maxStack := 6, maxLocals := 21, code := code, exceptionTable := #[], attributes := #[] }
def k1m1 : Method := { name := "law", desc := "(JJJJII)Z", sig := { parameters := [.long, .long, .long, .long, .int, .int], returnType := some .boolean }, accessFlags := 9, code := some k1c1 }
/-- com/example/servloom/servloom/compose/AmountZeroPinLaw -/
def k1 : Class := { plain "com/example/servloom/servloom/compose/AmountZeroPinLaw" (some 0) with
  accessFlags := 49
  interfaces := #[]
  cf := some (fileOf pool1 18 #[] #[{ accessFlags := 1, nameIndex := 5, descriptorIndex := 6, attributes := #[] }, { accessFlags := 9, nameIndex := 22, descriptorIndex := 23, attributes := #[] }] 49 2 #[] #[])
  fields := #[]
  methods := #[k1m0, k1m1]
  instanceTypes := #[]
  staticTypes := #[]
  resolved := Array.replicate 29 none
  statics := none }

def pool2 : Array CpInfo := pool [(2, .class_ 4), (1, u "java/lang/Object"), (0, u "<init>"), (0, u "()V"), (17, .class_ 26), (1, u "com/example/servloom/servloom/compose/Amount"), (0, u "LOW"), (0, u "Ljava/math/BigInteger;"), (36, u "UNBOUNDED"), (19, u "zero"), (0, u "([JI)Z")] 12

def k2m0 : Method := { name := "<init>", desc := "()V", sig := { parameters := [], returnType := none }, accessFlags := 2, code := none }
def k2c1 : Code := { maxStack := 4, maxLocals := 2, code := prog_5_method_12_code, exceptionTable := #[], attributes := #[] }
def k2m1 : Method := { name := "zero", desc := "([JI)Z", sig := { parameters := [(.array .long), .int], returnType := some .boolean }, accessFlags := 8, code := some k2c1 }
/-- com/example/servloom/servloom/compose/Amount -/
def k2 : Class := { plain "com/example/servloom/servloom/compose/Amount" (some 0) with
  accessFlags := 48
  interfaces := #[]
  cf := some (fileOf pool2 24 #[] #[{ accessFlags := 2, nameIndex := 5, descriptorIndex := 6, attributes := #[] }, { accessFlags := 8, nameIndex := 85, descriptorIndex := 86, attributes := #[] }] 48 2 #[] #[{ accessFlags := 24, nameIndex := 65, descriptorIndex := 28, attributes := #[] }, { accessFlags := 26, nameIndex := 27, descriptorIndex := 28, attributes := #[] }])
  fields := #[{ name := "UNBOUNDED", type := (.object "java/math/BigInteger"), accessFlags := 24, slot := 0, constantValue := 0 }, { name := "LOW", type := (.object "java/math/BigInteger"), accessFlags := 26, slot := 1, constantValue := 0 }]
  methods := #[k2m0, k2m1]
  instanceTypes := #[]
  staticTypes := #[(.object "java/math/BigInteger"), (.object "java/math/BigInteger")]
  resolved := Array.replicate 99 none
  statics := none }

def pool3 : Array CpInfo := pool [(1, u "java/lang/Cloneable"), (0, .class_ 1), (0, u "java/lang/Object"), (0, .class_ 3)] 3

/-- java/lang/Cloneable -/
def k3 : Class := { plain "java/lang/Cloneable" (some 0) with
  accessFlags := 1537
  interfaces := #[]
  cf := some (fileOf pool3 2 #[] #[] 1537 4 #[] #[])
  fields := #[]
  methods := #[]
  instanceTypes := #[]
  staticTypes := #[]
  resolved := Array.replicate 8 none
  statics := none }

def pool4 : Array CpInfo := pool [(1, u "java/io/Serializable"), (0, .class_ 1), (0, u "java/lang/Object"), (0, .class_ 3)] 3

/-- java/io/Serializable -/
def k4 : Class := { plain "java/io/Serializable" (some 0) with
  accessFlags := 1537
  interfaces := #[]
  cf := some (fileOf pool4 2 #[] #[] 1537 4 #[] #[])
  fields := #[]
  methods := #[]
  instanceTypes := #[]
  staticTypes := #[]
  resolved := Array.replicate 8 none
  statics := none }

/-- the primitive byte -/
def k5 : Class := { plain "byte" none with kind := .primitive 'B', accessFlags := 0x411 }
/-- [B -/
def k6 : Class := { plain "[B" (some 0) with kind := .array 5 .byte, interfaces := #[3, 4], accessFlags := 1041 }

/-- the primitive int -/
def k7 : Class := { plain "int" none with kind := .primitive 'I', accessFlags := 0x411 }
/-- [I -/
def k8 : Class := { plain "[I" (some 0) with kind := .array 7 .int, interfaces := #[3, 4], accessFlags := 1041 }

/-- the primitive long -/
def k9 : Class := { plain "long" none with kind := .primitive 'J', accessFlags := 0x411 }
/-- [J -/
def k10 : Class := { plain "[J" (some 0) with kind := .array 9 .long, interfaces := #[3, 4], accessFlags := 1041 }

def heap : Heap := #[]
def classes : Array Class := #[k0, k1, k2, k3, k4, k5, k6, k7, k8, k9, k10]
def interned : List (Array UInt16 × Addr) := []
def slotsUsed : Nat := 0
def theMethod : MethodId := ⟨1, 1⟩
def args0 : Array Value := #[.long 5, .long 300, .long 7, .long 0, .int 1, .int 4]
def aboutOver (below : List Frame) : State where
  vm := { classes := classes, interned := interned.toArray }
  heap := heap
  slotsUsed := slotsUsed
  threads := #[{ frames := .invoking theMethod args0 :: below }]
def below0 : List Frame := [.native { method := ⟨0, 0⟩, args := #[] }]
def about1 : State := aboutOver below0
def p0 : Program := .bare "" "" ""
def e0 : Env := launch0.env 0 0 0
theorem w_frames : about1.frames = Frame.invoking theMethod args0 :: below0 := rfl
set_option maxRecDepth 65536 in
theorem w_args : argsFit about1.vm theMethod args0 = true := by decide +kernel
set_option maxRecDepth 65536 in
theorem w_heap : heapFits about1 = true := by decide +kernel
set_option maxRecDepth 65536 in
theorem w_runnable : about1.curStatus? = some .runnable := by decide +kernel
set_option maxRecDepth 65536 in
theorem w_alone : about1.alone = true := by decide +kernel
set_option maxRecDepth 65536 in
theorem w_named : about1.methodNamed? x = some theMethod := by decide +kernel
set_option maxRecDepth 65536 in
theorem w_hears : about1.hears theMethod below0 = true := by decide +kernel
set_option maxRecDepth 65536 in
theorem w_ripe : about1.ripe theMethod args0 below0 = true := by decide +kernel
theorem w_running : about1.status = .running := rfl
set_option maxRecDepth 65536 in
theorem w_room : about1.hasRoom e0.platform room_1 = true :=
  launch0.hasRoom_least _ room_1 (by decide +kernel) (by decide +kernel) (by decide +kernel) (by decide +kernel) (by decide +kernel) (by decide +kernel)
theorem allAtoms_all (ts : List Jvm.Cond) (a : Array Jvm.Value) (st : Jvm.State) : (allAtoms ts).before a st = ts.all (fun c => c.before a st) := by
  induction ts with
  | nil => rfl
  | cons c t ih =>
    show (Jvm.Cond.and c (allAtoms t)).before a st = _
    rw [Jvm.Cond.before_and, ih, List.all_cons]
def words1 : List Jvm.Cond := Jvm.Cond.code x code maxLocals ret :: tables_1
/-- a 'code' word, met by the world's own term for the bytes: nothing is compared byte by byte -/
theorem code_word {y : MethodName} {bytes : ByteArray} {mx : Nat} {rt : Option FieldType} {a : Array Value} {s : State} {m : MethodId} {meth : Method} {c : Code} (h1 : s.methodNamed? y = some m) (h2 : s.vm.method? m = some meth) (h3 : meth.code = some c) (h4 : c.code = bytes)
    (h5 : (c.maxLocals == mx && c.exceptionTable.isEmpty && decide (c.maxStack ≤ mostOperands) && decide (meth.sig.returnType = rt) && !meth.locks && decide (parseMethodDescriptor y.desc = some meth.sig)) = true) : (Jvm.Cond.code y bytes mx rt).before a s = true := by
  simp only [Bool.and_eq_true, beq_iff_eq, Bool.not_eq_true', decide_eq_true_eq] at h5
  obtain ⟨⟨⟨⟨⟨g1, g2⟩, g3⟩, g4⟩, g5⟩, g6⟩ := h5
  simp [Cond.before, Cond.holds, Cond.value, h1, h2, h3, h4, g1, g2, g3, g4, g5, g6]
def isCode : Jvm.Cond → Bool
  | .code _ _ _ _ => true
  | _ => false
theorem all_split {L : List Jvm.Cond} {P : Jvm.Cond → Bool} (h1 : L.all (fun c => isCode c || P c) = true) (h2 : ∀ c ∈ L.filter isCode, P c = true) : L.all P = true := by
  refine List.all_eq_true.mpr fun c hc => ?_
  have h := List.all_eq_true.mp h1 c hc
  rcases Bool.eq_false_or_eq_true (isCode c) with hi | hi
  · exact h2 c (List.mem_filter.mpr ⟨hc, hi⟩)
  · simpa [hi] using h
set_option maxRecDepth 65536 in
theorem w_c0 : (Jvm.Cond.code x code maxLocals ret).before args0 about1 = true := code_word (m := ⟨1, 1⟩) (meth := k1m1) (c := k1c1) (by decide +kernel) rfl rfl rfl (by decide +kernel)
set_option maxRecDepth 65536 in
theorem w_c1 : (Jvm.Cond.code ({ cls := "com/example/servloom/servloom/compose/Amount", name := "zero", desc := "([JI)Z" } : Jvm.MethodName) prog_5_method_12_code (2 : Nat) (Option.some Jvm.ClassFile.FieldType.boolean)).before args0 about1 = true := code_word (m := ⟨2, 1⟩) (meth := k2m1) (c := k2c1) (by decide +kernel) rfl rfl rfl (by decide +kernel)
def codes1 : List Jvm.Cond := [Jvm.Cond.code x code maxLocals ret, Jvm.Cond.code ({ cls := "com/example/servloom/servloom/compose/Amount", name := "zero", desc := "([JI)Z" } : Jvm.MethodName) prog_5_method_12_code (2 : Nat) (Option.some Jvm.ClassFile.FieldType.boolean)]
set_option maxRecDepth 65536 in
theorem codes_eq : words1.filter isCode = codes1 := rfl
theorem w_codes : ∀ c ∈ words1.filter isCode, c.before args0 about1 = true := by
  rw [codes_eq]
  intro c hc
  simp only [codes1, List.mem_cons, List.not_mem_nil, or_false] at hc
  rcases hc with rfl | rfl
  · exact w_c0
  · exact w_c1
set_option maxRecDepth 65536 in
theorem w_t1 : words1.all (fun c => isCode c || c.before args0 about1) = true := by decide +kernel
theorem w_tables : (allAtoms (Jvm.Cond.code x code maxLocals ret :: tables_1)).before args0 about1 = true := by
  rw [allAtoms_all]
  show words1.all (fun c => c.before args0 about1) = true
  refine all_split ?_ w_codes
  rw [w_t1]
set_option maxRecDepth 65536 in
theorem w_case : (Jvm.Cond.and given_1 narrow_1).before args0 about1 = true := by decide +kernel
theorem w_applies : (headSpec (Jvm.Cond.code x code maxLocals ret :: tables_1) room_1).applies x e0.platform about1 = true :=
  (Spec.applies_iff w_frames).mpr ⟨w_running, w_runnable, w_alone, w_named, w_hears, w_ripe, w_room, w_tables⟩
theorem atStart : AtStart classFile x code maxLocals ret World_1 tables_1 room_1 Calls_1 rest_1 Pre_1 launch0 p0 e0 about1 theMethod args0 below0 :=
  ⟨lists_1, trivial, launch0.admits_env _ _ _, launch0.least_env, fairChoices_fair.cas, fairChoices_fair.clock, w_frames, w_args, w_heap, w_applies, trivial, trivial, w_case⟩
end start1
theorem witness_1 : WitnessClaimed_1 := ⟨start1.p0, start1.e0, start1.about1, start1.theMethod, start1.args0, start1.below0, start1.atStart⟩
end Jvm.Pilot.@@N@@
