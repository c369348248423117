import JvmDerived
import JvmDerived.Pilot.@@N@@Statement
import JvmDerived.Pilot.@@N@@Code
set_option linter.unusedVariables false
set_option linter.unusedSimpArgs false
namespace Jvm.RoadKit
open Sem ClassFile Op Lib Jvm.Stand Jvm.Free Jvm.LawKit
section New
variable {p : Program} {l : Launch} {e : Env} {R : Room} {s : State} {m : MethodId} {args : Array Value} {below : List Frame} {meth : Method} {c : Code} {T : State} {locs : List Loc} {cells slots : Nat}
theorem retI (X : Stand p l e R s m args below meth c T locs cells slots) (hx : p.tables.exec = Jvm.exec) {pc : Nat} {Ls : Array Slot} {z : Int32} {rest : List Value} (hret : meth.sig.returnType = some .int) (hd : decode c.code pc = .ok (.ireturn, 1)) {fs : List Frame}
    (hl : ∀ (f : JFrame) (acts : List Action), f.method = m → f.locked = none → f.entered = [] → (doReturn e (T.setTop f) acts (some (.int z))).1 = T.setFrames fs) : Steps p.tables e below (T.setTop (mkF m pc Ls (.int z :: rest))) (T.setFrames fs) := by
  have hm' : T.vm.method? m = some meth := X.method'
  have hn : narrow .int (.int z) = .int z := rfl
  show Steps p.tables e below (T.setTop { method := m, pc := pc, locals := Ls, stack := _ :: rest, locked := none }) _
  jvm_step X.here [X.here.top, hx, hd, hm', hret, hn]
  first | (intro acts; rw [hl _ acts rfl rfl rfl]) | rw [hl _ _ rfl rfl rfl]
  exact Steps.refl _
end New
end Jvm.RoadKit
namespace Jvm.Pilot.@@N@@
open Jvm Jvm.ClassFile Sem Op Lib Jvm.Free Jvm.Stand Jvm.LawKit Jvm.RoadKit Bundle Jvm.Pilot.@@N@@.Jvm.D
theorem own_nar0 : nar .boolean (0 : Int32) = (0 : Int32) := rfl
theorem own_nar1 : nar .boolean (1 : Int32) = (1 : Int32) := rfl
def gI (xs : List Int32) (j : Int32) : Int32 := xs.getD j.toNatClampNeg 0
def sI (xs : List Int32) (j v : Int32) : List Int32 := xs.set j.toNatClampNeg v
def inR (xs : List Int32) (j : Int32) : Bool := decide (¬ j < 0) && decide (j.toNatClampNeg < xs.length)
def vI (xs : List Int32) : List Value := xs.map Value.int
def cpB (xs : List Int32) (n : Int32) : List Int32 := xs.take n.toNatClampNeg ++ List.replicate (n.toNatClampNeg - xs.length) 0
def minF (a b : Int32) : Int32 := if b < a then b else a
def minL (a b : Int64) : Int64 := if b < a then b else a
def BA (Z : State) (h : Heap) (b : Addr) (xs : List Int32) : Prop := xs.length ≤ 1000 ∧ Exa Z h b "[B" ∧ ∃ k, Arv Z h b k .byte (Int32.ofNat xs.length) (vI xs) (.int 0)
section BAs
variable {Z : State} {h h' : Heap} {a b : Addr} {xs : List Int32} {ws : List Addr} {sl : Nat} {v : Value}
theorem Arr.mon {c : Cell} {ty : FieldType} (W : Mon h h') (F : Arr Z h b c ty) : ∃ mo, Arr Z h' b { c with monitor := mo } ty := by
  obtain ⟨mo, q⟩ := W.2 _ _ F.1; exact ⟨mo, q, F.2.1, F.2.2⟩
theorem Arv.mon {k : ClassId} {ty : FieldType} {z : Int32} {vs : List Value} {dv : Value} (F : Arv Z h b k ty z vs dv) (W : Mon h h') : Arv Z h' b k ty z vs dv := by
  obtain ⟨c, A, r1, r2, r3, H, G⟩ := F
  obtain ⟨mo, A'⟩ := Arr.mon W A
  exact ⟨_, A', r1, r2, r3, H, G⟩
theorem BA.ext (F : BA Z h b xs) (E : Ext h h') : BA Z h' b xs := ⟨F.1, F.2.1.ext E, F.2.2.imp fun _ A => A.ext E⟩
theorem BA.other (F : BA Z h b xs) (W : Wr h h' a sl v) (q : b ≠ a) : BA Z h' b xs := ⟨F.1, F.2.1.wr W, F.2.2.imp fun _ A => A.other W q⟩
theorem BA.keep (F : BA Z h b xs) (K : Keep h h' ws) (q : b ∉ ws) : BA Z h' b xs := ⟨F.1, F.2.1.keep K, F.2.2.imp fun _ A => A.keep K q⟩
theorem BA.mon (F : BA Z h b xs) (W : Mon h h') : BA Z h' b xs := ⟨F.1, F.2.1.mon W, F.2.2.imp fun _ A => Arv.mon A W⟩
theorem BA.lt (F : BA Z h b xs) : b < h.size := F.2.1.lt
theorem own_len {n : Nat} (q : n ≤ 1000) : (Int32.ofNat n).toInt = n := Int32.toInt_ofNat_of_lt (by omega)
theorem own_clamp {n : Nat} (q : n ≤ 1000) : (Int32.ofNat n).toNatClampNeg = n := by simp only [Int32.toNatClampNeg, own_len q]; rfl
theorem own_nneg {n : Nat} (q : n ≤ 1000) : ¬ Int32.ofNat n < 0 := by rw [Int32.lt_iff_toInt_lt, own_len q]; show ¬ (n : Int) < 0; omega
theorem own_back {x : Int32} (h : ¬ x < 0) : x = Int32.ofNat x.toNatClampNeg := (back32 h).1.symm
theorem own_int {x : Int32} (h : ¬ x < 0) : x.toInt = (x.toNatClampNeg : Int) := by
  rw [Int32.lt_iff_toInt_lt] at h; change ¬ x.toInt < 0 at h; simp only [Int32.toNatClampNeg]; omega
theorem BA.ln (F : BA Z h b xs) : ∃ cl : Cell, Arr Z h b cl .byte ∧ cl.slots.size.toInt32 = Int32.ofNat xs.length := by
  obtain ⟨-, -, k, c, A, -, S, N, -⟩ := F; exact ⟨c, A, len_of S N⟩
theorem BA.neE {C : String} (F : BA Z h b xs) (G : Exa Z h a C) (hn : C ≠ "[B") : a ≠ b := ne_exa G F.2.1 hn
theorem inR_iff {xs : List Int32} {j : Int32} : inR xs j = true ↔ ¬ j < 0 ∧ j.toNatClampNeg < xs.length := by simp [inR]
theorem BA.rd (F : BA Z h b xs) {j : Int32} (q : inR xs j = true) : ∃ cl : Cell, Arr Z h b cl .byte ∧ ¬ (j < 0 ∨ cl.slots.size ≤ j.toNatClampNeg) ∧ cl.slots[j.toNatClampNeg]? = some (.int (gI xs j)) ∧ ∀ (h' : Heap) (v : Int32), Wr h h' b j.toNatClampNeg (.int (nar .byte v)) → BA Z h' b (sI xs j (nar .byte v)) := by
  obtain ⟨l, E, k, c, A, q1, S, N, H, G⟩ := F
  have q' := inR_iff.mp q
  have hin : ¬ (j < 0 ∨ c.slots.size ≤ j.toNatClampNeg) := fun z => z.elim q'.1 (fun z => by rw [S, own_clamp l] at z; omega)
  refine ⟨c, A, hin, H.at hin ?_, fun h' v W => ⟨?_, E.wr W, k, ?_⟩⟩
  · simp only [vI, gI, List.getD_eq_getElem?_getD, List.getElem?_map, List.getElem?_eq_getElem q'.2]; rfl
  · show (xs.set _ _).length ≤ _; rw [List.length_set]; exact l
  · have w := Arv.set A q1 S N H G (fits_nar_byte _) W _ rfl (by rw [vI, List.length_map]; exact q'.2)
    show Arv Z h' b k .byte (Int32.ofNat (xs.set j.toNatClampNeg _).length) ((xs.set j.toNatClampNeg _).map Value.int) (.int 0)
    rw [List.length_set, List.map_set]; exact w
theorem own_vrep (n i : Nat) : (vI (List.replicate n 0)).getD i (.int 0) = .int 0 := by
  simp only [vI, List.map_replicate, List.getD_eq_getElem?_getD, List.getElem?_replicate]; split <;> rfl
theorem BA.new {k : ClassId} {z : Int32} (n : Nat) (A : Arr Z h b (newA k .byte z) .byte) (E : Exa Z h b "[B") (hn : n ≤ 1000) (hz : z = Int32.ofNat n) : BA Z h b (List.replicate n 0) := by
  subst hz
  refine ⟨by rw [List.length_replicate]; exact hn, E, k, ?_⟩
  rw [List.length_replicate]
  exact (Arv.new A (own_nneg hn)).pad fun i => (own_vrep n i).trans rfl
theorem own_rangeT {α : Type} (xs : List α) (d : α) (k : Nat) (hk : k ≤ xs.length) : (List.range k).map (fun i => xs.getD (0 + i) d) = xs.take k := by
  apply List.ext_getElem?
  intro i
  rw [List.getElem?_map, List.getElem?_take]
  by_cases q : i < k
  · rw [List.getElem?_range q, if_pos q]; simp [List.getD_eq_getElem?_getD, show i < xs.length by omega]
  · rw [List.getElem?_eq_none (by simpa using q), if_neg q]; rfl
theorem cpB_len {xs : List Int32} {n : Int32} : (cpB xs n).length = n.toNatClampNeg := by
  show (xs.take _ ++ List.replicate _ _).length = _; rw [List.length_append, List.length_take, List.length_replicate]; omega
theorem own_minN {xs : List Int32} {n : Int32} (l : xs.length ≤ 1000) (hn : ¬ n < 0) : (minF (Int32.ofNat xs.length) n).toNatClampNeg = min xs.length n.toNatClampNeg ∧ ¬ minF (Int32.ofNat xs.length) n < 0 := by
  have e := own_int hn
  unfold minF
  split
  · rename_i q; rw [Int32.lt_iff_toInt_lt, own_len l, e] at q; exact ⟨by omega, hn⟩
  · rename_i q; rw [Int32.lt_iff_toInt_lt, own_len l, e] at q; exact ⟨by rw [own_clamp l]; omega, own_nneg l⟩
theorem own_cpB {k : ClassId} {n : Int32} (hn : ¬ n < 0) (hc : n.toNatClampNeg ≤ 1000) (l : xs.length ≤ 1000) (E : Exa Z h b "[B")
    (B : Arv Z h b k .byte (Int32.ofNat (List.replicate n.toNatClampNeg (0 : Int32)).length) ((vI (List.replicate n.toNatClampNeg 0)).take (0 : Int32).toNatClampNeg ++ vI (xs.take n.toNatClampNeg) ++ (vI (List.replicate n.toNatClampNeg 0)).drop ((0 : Int32).toNatClampNeg + (minF (Int32.ofNat xs.length) n).toNatClampNeg)) (.int 0)) : BA Z h b (cpB xs n) := by
  refine ⟨by rw [cpB_len]; exact hc, E, k, ?_⟩
  rw [cpB_len]
  rw [List.length_replicate, (own_minN l hn).1, show (0 : Int32).toNatClampNeg = 0 from rfl, List.take_zero, List.nil_append, Nat.zero_add] at B
  rw [show vI (cpB xs n) = vI (xs.take n.toNatClampNeg) ++ (vI (List.replicate n.toNatClampNeg 0)).drop (min xs.length n.toNatClampNeg) from by
    show (xs.take _ ++ List.replicate _ _).map _ = _
    rw [List.map_append]; show vI _ ++ _ = _; congr 1
    simp only [vI, List.map_replicate, List.drop_replicate]; congr 1; omega]
  exact B
theorem own_usB {n : Int32} (l : xs.length ≤ 1000) (hn : ¬ n < 0) : vI (xs.take n.toNatClampNeg) = (List.range (minF (Int32.ofNat xs.length) n).toNatClampNeg).map fun i => (vI xs).getD ((0 : Int32).toNatClampNeg + i) (.int 0) := by
  rw [(own_minN l hn).1, show (0 : Int32).toNatClampNeg = 0 from rfl, own_rangeT (vI xs) (.int 0) _ (by show _ ≤ (List.map _ _).length; rw [List.length_map]; omega)]
  show (xs.take _).map _ = (xs.map _).take _
  rw [← List.map_take]; congr 1
  rw [List.take_eq_take_iff]; omega
theorem cpB_self {n : Int32} (l : xs.length ≤ 1000) (h : n = Int32.ofNat xs.length) : cpB xs n = xs := by
  subst h; unfold cpB; rw [own_clamp l, List.take_length, Nat.sub_self]; exact List.append_nil _
end BAs
/-- an unheld monitor over a call's frame -/
theorem own_unt {s t : State} {locs : List Loc} {cells slots : Nat} {a : Addr} (q : s.sameButNew t locs cells slots) (N : Unt s.heap a) : Unt t.heap a := by
  obtain ⟨c, h1, h2, h3⟩ := N
  obtain ⟨c', g1, g2, -⟩ := q.2.2.2.2.2 a c h1
  exact ⟨c', g1, by rw [g2]; exact h2, by rw [g2]; exact h3⟩
def RO (Z : State) (n0 : Nat) (h : Heap) (a ar : Addr) (xs : List Int32) (cnt : Int32) (ys : List Int32) : Prop := ∃ bb : Addr,
  Exa Z h a "com/example/driftstone/driftstone/core/RecordOutput" ∧ Unt h a ∧ Fld Z h a "java/io/ByteArrayOutputStream" "buf" "[B" (.ref bb) ∧ Fld Z h a "java/io/ByteArrayOutputStream" "count" "I" (.int cnt) ∧ BA Z h bb xs ∧ BA Z h ar ys ∧ bb ≠ ar ∧ n0 ≤ a ∧ n0 ≤ bb
theorem RO.exa {Z : State} {n0 : Nat} {h : Heap} {a ar : Addr} {xs ys : List Int32} {cnt : Int32} (S : RO Z n0 h a ar xs cnt ys) : Exa Z h a "com/example/driftstone/driftstone/core/RecordOutput" := by obtain ⟨_, E, -⟩ := S; exact E
theorem RO.unt {Z : State} {n0 : Nat} {h : Heap} {a ar : Addr} {xs ys : List Int32} {cnt : Int32} (S : RO Z n0 h a ar xs cnt ys) : Unt h a := by obtain ⟨_, -, N, -⟩ := S; exact N
theorem RO.size {Z : State} {n0 : Nat} {h : Heap} {a ar : Addr} {xs ys : List Int32} {cnt : Int32} (S : RO Z n0 h a ar xs cnt ys) : n0 ≤ h.size := by
  obtain ⟨_, E, -, -, -, -, -, -, g, -⟩ := S; exact Nat.le_trans g (Nat.le_of_lt E.lt)
section Sync
variable {p : Program} {l : Launch} {e : Env} {R : Room} {s : State} {args : Array Value} {below : List Frame} {Z : State} {a0 : Array Value} {h : Heap}
/-- backOf, of a synchronized callee on a receiver whose monitor is free -/
theorem backS {y : MethodName} {bytes : ByteArray} {maxL : Nat} {ret : Option FieldType} {rm : Room} {len W : Nat} {as' : Array Value} {a : Addr} {Q : Option Value → Heap → List Loc → Prop}
    (hM : MetFree l y (head1 [Cond.codeSync y bytes maxL ret, Cond.instanceMethod y] rm) (fun as U => as = as' ∧ Z.Warmed39 U.vm ∧ U.heap = h ∧ ∃ cell : Cell, h[a]? = some cell ∧ cell.enterable U.cur) (fun _ _ _ _ _ => True) (fun _ U o U' => ∃ v L, o = .returned v ∧ Q v U'.heap L ∧ FrameEnd U o U' L rm.cells rm.slots))
    (hZ : Z.Warmed39 s.vm) (wc : (Cond.codeSync y bytes maxL ret).before a0 Z = true) (wi : (Cond.instanceMethod y).before a0 Z = true) (wz : (Cond.initialized y.cls).before a0 Z = true) (N : Unt h a) (hf : rm.frames + 1 ≤ R.frames) (hl : W + (maxL + 11) + rm.locals ≤ R.locals) :
    Back l R p e below s args y len W (fun A as => as = as' ∧ A.U.heap = h ∧ A.cells + rm.cells ≤ R.cells ∧ A.slots + rm.slots ≤ R.slots)
      (fun A _ v B => ∃ L, Q v B.U.heap L ∧ B.locs = A.locs ++ L ∧ B.cells = A.cells + rm.cells ∧ B.slots = A.slots + rm.slots) :=
  Jvm.Free.XT.back_of_sync (bytes := bytes) (maxL := maxL) (ret := ret) (E := fun _ _ o t L k n => k = rm.cells ∧ n = rm.slots ∧ ∃ v, o = .returned v ∧ Q v t.heap L) hM hf hl
    (fun m meth c A as Y hp => have hU : Z.Warmed39 A.U.vm := wtrans hZ Y.warmed
      ⟨by show (Cond.and _ (Cond.and _ .tt)).before as A.U = true; rw [Cond.before_and, Cond.before_and, mv hU wc, mv hU wi]; rfl, mv hU wc, mv hU wz, hp.2.2.1, hp.2.2.2⟩)
    (fun m meth c A as g mk Y hp => ⟨hp.1, wtrans hZ Y.warmed, hp.2.1, by obtain ⟨cl, u1, -, u3⟩ := N; exact ⟨cl, u1, by rw [Cell.enterable, u3]; simp⟩⟩)
    (fun _ _ _ _ _ _ _ _ _ => trivial)
    (fun _ _ _ _ ⟨v, L, h1, h2, h3⟩ => ⟨L, _, _, h3, rfl, rfl, v, h1, h2⟩)
    (fun m meth c A as g mk v t L k n Y hp _ _ ⟨e1, e2, v', e3, e4⟩ => by cases e3; subst e1 e2; exact ⟨L, e4, rfl, rfl, rfl⟩)
end Sync

theorem d_jdk_29_method_69_0 : decode jdk_29_method_69_code 0 = .ok (.iload_n 0, 1) := by decide +kernel
theorem d_jdk_29_method_69_1 : decode jdk_29_method_69_code 1 = .ok (.iload_n 1, 1) := by decide +kernel
theorem d_jdk_29_method_69_2 : decode jdk_29_method_69_code 2 = .ok (.if_icmp .gt 7, 3) := by decide +kernel
theorem d_jdk_29_method_69_5 : decode jdk_29_method_69_code 5 = .ok (.iload_n 0, 1) := by decide +kernel
theorem d_jdk_29_method_69_6 : decode jdk_29_method_69_code 6 = .ok (.goto 4, 3) := by decide +kernel
theorem d_jdk_29_method_69_9 : decode jdk_29_method_69_code 9 = .ok (.iload_n 1, 1) := by decide +kernel
theorem d_jdk_29_method_69_10 : decode jdk_29_method_69_code 10 = .ok (.ireturn, 1) := by decide +kernel
theorem ef_min (m : MethodId) (xa : Int32) (xb : Int32) : entryFrame m #[(.int xa), (.int xb)] 2 = mkF m 0 #[.val (.int xa), .val (.int xb)] [] := by first | (simp [entryFrame, mkF, argsToLocals, Value.category]; done) | rfl
def Q_min (Z : State) (xa : Int32) (xb : Int32) (h0 : Heap) (n0 : Nat) (v : Option Value) (h : Heap) (L : List Loc) : Prop := v = some (.int (minF xa xb)) ∧ Fr n0 L ∧ h = h0
set_option maxRecDepth 65536 in
set_option maxHeartbeats 40000000 in
theorem rm_min (l : Launch) (Z : State) (a0 : Array Value) (hw : ∀ d ∈ tables_1, d.before a0 Z = true) (ws : List Jvm.Cond) (xa : Int32) (xb : Int32) (h0 : Heap) (n0 : Nat) (Z0 : n0 ≤ h0.size) :
    MetFree l (⟨"java/lang/Math", "min", "(II)I"⟩ : MethodName) (head1 (Jvm.Cond.code (⟨"java/lang/Math", "min", "(II)I"⟩ : MethodName) jdk_29_method_69_code 2 (some .int) :: ws) ({ frames := 0, cells := 0, slots := 0, locals := 0 } : Room)) (fun a U => a = #[(.int xa), (.int xb)] ∧ Z.Warmed39 U.vm ∧ U.heap = h0) (fun _ _ _ _ _ => True) (fun _ U o U' => ∃ v L, o = .returned v ∧ Q_min Z xa xb h0 n0 v U'.heap L ∧ FrameEnd U o U' L ({ frames := 0, cells := 0, slots := 0, locals := 0 } : Room).cells ({ frames := 0, cells := 0, slots := 0, locals := 0 } : Room).slots) := by
  refine MetFree.of_bodySF (Jvm.Free.JP.mathPlain rfl (by decide +kernel)) hisR ?_
  intro p e s m args below meth c s₁ Bd hml0 hP hK
  obtain ⟨rfl, hZ, hh⟩ := hP
  have hx := Bd.exec
  have hby := Bd.bytes
  have hml : c.maxLocals = 2 := hml0
  have hown : s.vm.findClass "java/lang/Math" = some m.cls := findClass_of_methodNamed Bd.named
  have X0 : Stand p l e ({ frames := 0, cells := 0, slots := 0, locals := 0 } : Room) s m #[(.int xa), (.int xb)] below meth c s₁ [] 0 0 := Stand.of_body Bd
  have e0 : s₁.heap = h0 := by rw [← hh, Bd.state]; rfl
  have N0 := Fr.nil n0
  have pre0 : ∀ t, Steps p.tables e below (s₁.setTop (mkF m 0 #[.val (.int xa), .val (.int xb)] [])) t → Steps p.tables e below (s₁.setTop (entryFrame m #[(.int xa), (.int xb)] 2)) t := fun t k => castTop (ef_min m xa xb) k
  obtain ⟨fs, hr, hrun, hended, hW, hsame⟩ := X0.leave (v := some (.int (minF xa xb))) (fun h => by rw [Bd.returns] at h; cases h)
  refine ⟨_, _, pre0 _ ?_, hrun, hended, _, _, rfl, ?_, ⟨_, rfl⟩, hW, hsame.mono (by decide) (by decide)⟩
  · show Steps p.tables e below (s₁.setTop (mkF m 0 #[.val (.int xa), .val (.int xb)] [])) _
    refine XS.iloadN X0.here hx rfl (hb hby d_jdk_29_method_69_0) rfl ?_
    show Steps p.tables e below (s₁.setTop (mkF m 1 #[.val (.int xa), .val (.int xb)] [(.int xa)])) _
    refine XS.iloadN X0.here hx rfl (hb hby d_jdk_29_method_69_1) rfl ?_
    show Steps p.tables e below (s₁.setTop (mkF m 2 #[.val (.int xa), .val (.int xb)] [(.int xb), (.int xa)])) _
    by_cases h2 : xb < xa
    · refine XS.icmpYes X0.here hx rfl (pc0 := 2) (pc' := 9) rfl (hb hby d_jdk_29_method_69_2) rfl (tlt h2).2.2.1 (by decide) (by decide) ?_
      show Steps p.tables e below (s₁.setTop (mkF m 9 #[.val (.int xa), .val (.int xb)] [])) _
      refine XS.iloadN X0.here hx rfl (hb hby d_jdk_29_method_69_9) rfl ?_
      show Steps p.tables e below (s₁.setTop (mkF m 10 #[.val (.int xa), .val (.int xb)] [(.int xb)])) _
      exact retI X0 hx Bd.returns (hb hby d_jdk_29_method_69_10) (by rw [show xb = (minF xa xb) from by rw [minF, if_pos h2]]; exact hr)
    · refine XS.icmpNo X0.here hx rfl (hb hby d_jdk_29_method_69_2) rfl (flt h2).2.2.1 ?_
      show Steps p.tables e below (s₁.setTop (mkF m 5 #[.val (.int xa), .val (.int xb)] [])) _
      refine XS.iloadN X0.here hx rfl (hb hby d_jdk_29_method_69_5) rfl ?_
      show Steps p.tables e below (s₁.setTop (mkF m 6 #[.val (.int xa), .val (.int xb)] [(.int xa)])) _
      refine XS.goto X0.here hx rfl (pc0 := 6) (pc' := 10) rfl (hb hby d_jdk_29_method_69_6) (by decide) (by decide) ?_
      show Steps p.tables e below (s₁.setTop (mkF m 10 #[.val (.int xa), .val (.int xb)] [(.int xa)])) _
      exact retI X0 hx Bd.returns (hb hby d_jdk_29_method_69_10) (by rw [show xa = (minF xa xb) from by rw [minF, if_neg h2]]; exact hr)
  · show Q_min Z xa xb h0 n0 _ s₁.heap _
    exact ⟨rfl, N0, e0⟩
theorem d_jdk_29_method_70_0 : decode jdk_29_method_70_code 0 = .ok (.lload_n 0, 1) := by decide +kernel
theorem d_jdk_29_method_70_1 : decode jdk_29_method_70_code 1 = .ok (.lload_n 2, 1) := by decide +kernel
theorem d_jdk_29_method_70_2 : decode jdk_29_method_70_code 2 = .ok (.lcmp, 1) := by decide +kernel
theorem d_jdk_29_method_70_3 : decode jdk_29_method_70_code 3 = .ok (.ifCond .gt 7, 3) := by decide +kernel
theorem d_jdk_29_method_70_6 : decode jdk_29_method_70_code 6 = .ok (.lload_n 0, 1) := by decide +kernel
theorem d_jdk_29_method_70_7 : decode jdk_29_method_70_code 7 = .ok (.goto 4, 3) := by decide +kernel
theorem d_jdk_29_method_70_10 : decode jdk_29_method_70_code 10 = .ok (.lload_n 2, 1) := by decide +kernel
theorem d_jdk_29_method_70_11 : decode jdk_29_method_70_code 11 = .ok (.lreturn, 1) := by decide +kernel
theorem ef_minl (m : MethodId) (xa : Int64) (xb : Int64) : entryFrame m #[(.long xa), (.long xb)] 4 = mkF m 0 #[.val (.long xa), .second, .val (.long xb), .second] [] := by first | (simp [entryFrame, mkF, argsToLocals, Value.category]; done) | rfl
def Q_minl (Z : State) (xa : Int64) (xb : Int64) (h0 : Heap) (n0 : Nat) (v : Option Value) (h : Heap) (L : List Loc) : Prop := v = some (.long (minL xa xb)) ∧ Fr n0 L ∧ h = h0
set_option maxRecDepth 65536 in
set_option maxHeartbeats 40000000 in
theorem rm_minl (l : Launch) (Z : State) (a0 : Array Value) (hw : ∀ d ∈ tables_1, d.before a0 Z = true) (ws : List Jvm.Cond) (xa : Int64) (xb : Int64) (h0 : Heap) (n0 : Nat) (Z0 : n0 ≤ h0.size) :
    MetFree l (⟨"java/lang/Math", "min", "(JJ)J"⟩ : MethodName) (head1 (Jvm.Cond.code (⟨"java/lang/Math", "min", "(JJ)J"⟩ : MethodName) jdk_29_method_70_code 4 (some .long) :: ws) ({ frames := 0, cells := 0, slots := 0, locals := 0 } : Room)) (fun a U => a = #[(.long xa), (.long xb)] ∧ Z.Warmed39 U.vm ∧ U.heap = h0) (fun _ _ _ _ _ => True) (fun _ U o U' => ∃ v L, o = .returned v ∧ Q_minl Z xa xb h0 n0 v U'.heap L ∧ FrameEnd U o U' L ({ frames := 0, cells := 0, slots := 0, locals := 0 } : Room).cells ({ frames := 0, cells := 0, slots := 0, locals := 0 } : Room).slots) := by
  refine MetFree.of_bodySF (Jvm.Free.JP.mathPlain rfl (by decide +kernel)) hisR ?_
  intro p e s m args below meth c s₁ Bd hml0 hP hK
  obtain ⟨rfl, hZ, hh⟩ := hP
  have hx := Bd.exec
  have hby := Bd.bytes
  have hml : c.maxLocals = 4 := hml0
  have hown : s.vm.findClass "java/lang/Math" = some m.cls := findClass_of_methodNamed Bd.named
  have X0 : Stand p l e ({ frames := 0, cells := 0, slots := 0, locals := 0 } : Room) s m #[(.long xa), (.long xb)] below meth c s₁ [] 0 0 := Stand.of_body Bd
  have e0 : s₁.heap = h0 := by rw [← hh, Bd.state]; rfl
  have N0 := Fr.nil n0
  have pre0 : ∀ t, Steps p.tables e below (s₁.setTop (mkF m 0 #[.val (.long xa), .second, .val (.long xb), .second] [])) t → Steps p.tables e below (s₁.setTop (entryFrame m #[(.long xa), (.long xb)] 4)) t := fun t k => castTop (ef_minl m xa xb) k
  obtain ⟨fs, hr, hrun, hended, hW, hsame⟩ := X0.leave (v := some (.long (minL xa xb))) (fun h => by rw [Bd.returns] at h; cases h)
  refine ⟨_, _, pre0 _ ?_, hrun, hended, _, _, rfl, ?_, ⟨_, rfl⟩, hW, hsame.mono (by decide) (by decide)⟩
  · show Steps p.tables e below (s₁.setTop (mkF m 0 #[.val (.long xa), .second, .val (.long xb), .second] [])) _
    refine XS.lloadN X0.here hx rfl (hb hby d_jdk_29_method_70_0) rfl ?_
    show Steps p.tables e below (s₁.setTop (mkF m 1 #[.val (.long xa), .second, .val (.long xb), .second] [(.long xa)])) _
    refine XS.lloadN X0.here hx rfl (hb hby d_jdk_29_method_70_1) rfl ?_
    show Steps p.tables e below (s₁.setTop (mkF m 2 #[.val (.long xa), .second, .val (.long xb), .second] [(.long xb), (.long xa)])) _
    refine XS.lcmp X0.here hx rfl (hb hby d_jdk_29_method_70_2) rfl ?_
    show Steps p.tables e below (s₁.setTop (mkF m 3 #[.val (.long xa), .second, .val (.long xb), .second] [(.int (lcmpW xa xb))])) _
    by_cases h3 : xb < xa
    · refine XS.ifYes X0.here hx rfl (pc0 := 3) (pc' := 10) rfl (hb hby d_jdk_29_method_70_3) rfl ((if0 _ _).trans (tlt ((lw_gt _ _).2 h3)).2.2.1) (by decide) (by decide) ?_
      show Steps p.tables e below (s₁.setTop (mkF m 10 #[.val (.long xa), .second, .val (.long xb), .second] [])) _
      refine XS.lloadN X0.here hx rfl (hb hby d_jdk_29_method_70_10) rfl ?_
      show Steps p.tables e below (s₁.setTop (mkF m 11 #[.val (.long xa), .second, .val (.long xb), .second] [(.long xb)])) _
      rw [show xb = (minL xa xb) from by rw [minL, if_pos h3]]
      exact X0.lreturnOut hx Bd.returns (hb hby d_jdk_29_method_70_11) hr
    · refine XS.ifNo X0.here hx rfl (hb hby d_jdk_29_method_70_3) rfl ((if0 _ _).trans (flt (fun q => h3 ((lw_gt _ _).1 q))).2.2.1) ?_
      show Steps p.tables e below (s₁.setTop (mkF m 6 #[.val (.long xa), .second, .val (.long xb), .second] [])) _
      refine XS.lloadN X0.here hx rfl (hb hby d_jdk_29_method_70_6) rfl ?_
      show Steps p.tables e below (s₁.setTop (mkF m 7 #[.val (.long xa), .second, .val (.long xb), .second] [(.long xa)])) _
      refine XS.goto X0.here hx rfl (pc0 := 7) (pc' := 11) rfl (hb hby d_jdk_29_method_70_7) (by decide) (by decide) ?_
      show Steps p.tables e below (s₁.setTop (mkF m 11 #[.val (.long xa), .second, .val (.long xb), .second] [(.long xa)])) _
      rw [show xa = (minL xa xb) from by rw [minL, if_neg h3]]
      exact X0.lreturnOut hx Bd.returns (hb hby d_jdk_29_method_70_11) hr
  · show Q_minl Z xa xb h0 n0 _ s₁.heap _
    exact ⟨rfl, N0, e0⟩
theorem d_jdk_2038_method_1_0 : decode jdk_2038_method_1_code 0 = .ok (.aload_n 0, 1) := by decide +kernel
theorem d_jdk_2038_method_1_1 : decode jdk_2038_method_1_code 1 = .ok (.invokespecial 1, 3) := by decide +kernel
theorem d_jdk_2038_method_1_4 : decode jdk_2038_method_1_code 4 = .ok (.return_, 1) := by decide +kernel
theorem pn_0 : plainName "java/io/OutputStream" = true := by first | (simp [plainName, overriddenIn]; done) | decide +kernel
theorem ef_os (m : MethodId) (xa : Addr) : entryFrame m #[(.ref xa)] 1 = mkF m 0 #[.val (.ref xa)] [] := by first | (simp [entryFrame, mkF, argsToLocals, Value.category]; done) | rfl
def Q_os (Z : State) (xa : Addr) (h0 : Heap) (n0 : Nat) (v : Option Value) (h : Heap) (L : List Loc) : Prop := v = none ∧ Fr n0 L ∧ h = h0
set_option maxRecDepth 65536 in
set_option maxHeartbeats 40000000 in
theorem rm_os (l : Launch) (Z : State) (a0 : Array Value) (hw : ∀ d ∈ tables_1, d.before a0 Z = true) (ws : List Jvm.Cond) (xa : Addr) (h0 : Heap) (n0 : Nat) (Z0 : n0 ≤ h0.size) :
    MetFree l (⟨"java/io/OutputStream", "<init>", "()V"⟩ : MethodName) (head1 (Jvm.Cond.code (⟨"java/io/OutputStream", "<init>", "()V"⟩ : MethodName) jdk_2038_method_1_code 1 none :: ws) ({ frames := 1, cells := 0, slots := 0, locals := 12 } : Room)) (fun a U => a = #[(.ref xa)] ∧ Z.Warmed39 U.vm ∧ U.heap = h0) (fun _ _ _ _ _ => True) (fun _ U o U' => ∃ v L, o = .returned v ∧ Q_os Z xa h0 n0 v U'.heap L ∧ FrameEnd U o U' L ({ frames := 1, cells := 0, slots := 0, locals := 12 } : Room).cells ({ frames := 1, cells := 0, slots := 0, locals := 12 } : Room).slots) := by
  refine MetFree.of_bodySF (plainFor_of_name pn_0) hisR ?_
  intro p e s m args below meth c s₁ Bd hml0 hP hK
  obtain ⟨rfl, hZ, hh⟩ := hP
  have hx := Bd.exec
  have hby := Bd.bytes
  have hml : c.maxLocals = 1 := hml0
  have hown : s.vm.findClass "java/io/OutputStream" = some m.cls := findClass_of_methodNamed Bd.named
  have hnm := (name_of_methodNamed Bd.named Bd.method).1
  have X0 : Stand p l e ({ frames := 1, cells := 0, slots := 0, locals := 12 } : Room) s m #[(.ref xa)] below meth c s₁ [] 0 0 := Stand.of_body Bd
  have e0 : s₁.heap = h0 := by rw [← hh, Bd.state]; rfl
  have N0 := Fr.nil n0
  have pre0 : ∀ t, Steps p.tables e below (s₁.setTop (mkF m 0 #[.val (.ref xa)] [])) t → Steps p.tables e below (s₁.setTop (entryFrame m #[(.ref xa)] 1)) t := fun t k => castTop (ef_os m xa) k
  obtain ⟨T1, X1, e1, st1⟩ := initO X0 hx hZ hown (hw _ (List.mem_of_getElem? (i := 23) rfl)) (hw _ (List.mem_of_getElem? (i := 24) rfl)) (hw _ (List.mem_of_getElem? (i := 25) rfl)) e0 (g := (mkF m 1 #[.val (.ref xa)] [(.ref xa)])) rfl (by rw [hml]; rfl) rfl (hb hby d_jdk_2038_method_1_1) (by decide) (W := 0) (by show 2 * 0 + _ ≤ _; exact Nat.le_of_eq rfl) (by decide)
  obtain ⟨fs, hr, hrun, hended, hW, hsame⟩ := X1.leave (v := none) (fun _ => rfl)
  refine ⟨_, _, pre0 _ ?_, hrun, hended, _, _, rfl, ?_, ⟨_, rfl⟩, hW, hsame.mono (by decide) (by decide)⟩
  · show Steps p.tables e below (s₁.setTop (mkF m 0 #[.val (.ref xa)] [])) _
    refine XS.aloadN X0.here hx rfl (hb hby d_jdk_2038_method_1_0) rfl rfl ?_
    show Steps p.tables e below (s₁.setTop (mkF m 1 #[.val (.ref xa)] [(.ref xa)])) _
    refine st1 _ ?_
    show Steps p.tables e below (T1.setTop (mkF m 4 #[.val (.ref xa)] [])) _
    exact X1.returnOut hx Bd.returns (hb hby d_jdk_2038_method_1_4) hr
  · show Q_os Z xa h0 n0 _ T1.heap _
    rw [e1]
    exact ⟨rfl, N0, rfl⟩
theorem d_jdk_2005_method_2_0 : decode jdk_2005_method_2_code 0 = .ok (.aload_n 0, 1) := by decide +kernel
theorem d_jdk_2005_method_2_1 : decode jdk_2005_method_2_code 1 = .ok (.invokespecial 7, 3) := by decide +kernel
theorem d_jdk_2005_method_2_4 : decode jdk_2005_method_2_code 4 = .ok (.iload_n 1, 1) := by decide +kernel
theorem d_jdk_2005_method_2_5 : decode jdk_2005_method_2_code 5 = .ok (.ifCond .ge 30, 3) := by decide +kernel
theorem d_jdk_2005_method_2_35 : decode jdk_2005_method_2_code 35 = .ok (.aload_n 0, 1) := by decide +kernel
theorem d_jdk_2005_method_2_36 : decode jdk_2005_method_2_code 36 = .ok (.iload_n 1, 1) := by decide +kernel
theorem d_jdk_2005_method_2_37 : decode jdk_2005_method_2_code 37 = .ok (.newarray .byte, 2) := by decide +kernel
theorem d_jdk_2005_method_2_39 : decode jdk_2005_method_2_code 39 = .ok (.putfield 33, 3) := by decide +kernel
theorem d_jdk_2005_method_2_42 : decode jdk_2005_method_2_code 42 = .ok (.return_, 1) := by decide +kernel
theorem pn_1 : plainName "java/io/ByteArrayOutputStream" = true := by first | (simp [plainName, overriddenIn]; done) | decide +kernel
theorem pd_0 : parseMethodDescriptor "()V" = some ⟨[], none⟩ := by decide +kernel
theorem ef_bi (m : MethodId) (xa : Addr) (xn : Int32) : entryFrame m #[(.ref xa), (.int xn)] 2 = mkF m 0 #[.val (.ref xa), .val (.int xn)] [] := by first | (simp [entryFrame, mkF, argsToLocals, Value.category]; done) | rfl
def Q_bi (Z : State) (xa : Addr) (xn : Int32) (ar : Addr) (ys : List Int32) (h0 : Heap) (n0 : Nat) (v : Option Value) (h : Heap) (L : List Loc) : Prop := v = none ∧ Fr n0 L ∧ RO Z n0 h xa ar (List.replicate 32 0) 0 ys
set_option maxRecDepth 65536 in
set_option maxHeartbeats 40000000 in
theorem rm_bi (l : Launch) (Z : State) (a0 : Array Value) (hw : ∀ d ∈ tables_1, d.before a0 Z = true) (ws : List Jvm.Cond) (xa : Addr) (xn : Int32) (ar : Addr) (ys : List Int32) (h0 : Heap) (n0 : Nat) (Z0 : n0 ≤ h0.size) (Ex : Exa Z h0 xa "com/example/driftstone/driftstone/core/RecordOutput") (Un : Unt h0 xa) (ga : n0 ≤ xa) (Fb : Fld Z h0 xa "java/io/ByteArrayOutputStream" "buf" "[B" .null) (Fc : Fld Z h0 xa "java/io/ByteArrayOutputStream" "count" "I" (.int (0 : Int32))) (Ay : BA Z h0 ar ys) (h32 : xn = (32 : Int32)) :
    MetFree l (⟨"java/io/ByteArrayOutputStream", "<init>", "(I)V"⟩ : MethodName) (head1 (Jvm.Cond.code (⟨"java/io/ByteArrayOutputStream", "<init>", "(I)V"⟩ : MethodName) jdk_2005_method_2_code 2 none :: ws) ({ frames := 2, cells := 1, slots := 32, locals := 24 } : Room)) (fun a U => a = #[(.ref xa), (.int xn)] ∧ Z.Warmed39 U.vm ∧ U.heap = h0) (fun _ _ _ _ _ => True) (fun _ U o U' => ∃ v L, o = .returned v ∧ Q_bi Z xa xn ar ys h0 n0 v U'.heap L ∧ FrameEnd U o U' L ({ frames := 2, cells := 1, slots := 32, locals := 24 } : Room).cells ({ frames := 2, cells := 1, slots := 32, locals := 24 } : Room).slots) := by
  refine MetFree.of_bodySF (plainFor_of_name pn_1) hisR ?_
  intro p e s m args below meth c s₁ Bd hml0 hP hK
  obtain ⟨rfl, hZ, hh⟩ := hP
  have hx := Bd.exec
  have hby := Bd.bytes
  have hml : c.maxLocals = 2 := hml0
  have hown : s.vm.findClass "java/io/ByteArrayOutputStream" = some m.cls := findClass_of_methodNamed Bd.named
  have hnm := (name_of_methodNamed Bd.named Bd.method).1
  have X0 : Stand p l e ({ frames := 2, cells := 1, slots := 32, locals := 24 } : Room) s m #[(.ref xa), (.int xn)] below meth c s₁ [] 0 0 := Stand.of_body Bd
  have e0 : s₁.heap = h0 := by rw [← hh, Bd.state]; rfl
  have N0 := Fr.nil n0
  have pre0 : ∀ t, Steps p.tables e below (s₁.setTop (mkF m 0 #[.val (.ref xa), .val (.int xn)] [])) t → Steps p.tables e below (s₁.setTop (entryFrame m #[(.ref xa), (.int xn)] 2)) t := fun t k => castTop (ef_bi m xa xn) k
  obtain ⟨_, _, ⟨T1, L1, k1, n1⟩, -, X1, ⟨Lc1, hQ1, l1, y1, z1⟩, st1⟩ := X0.specialBack hx (y := (⟨"java/io/OutputStream", "<init>", "()V"⟩ : MethodName)) rfl hown (mvT hZ (hw _ (List.mem_of_getElem? (i := 17) rfl))) (mvT hZ (hw _ (List.mem_of_getElem? (i := 18) rfl))) (mvT hZ (hw _ (List.mem_of_getElem? (i := 22) rfl))) (by decide) (backOf (W := 0) (rm_os l Z a0 hw [] xa h0 n0 Z0 ) hZ (hw _ (List.mem_of_getElem? (i := 22) rfl)) (hw _ (List.mem_of_getElem? (i := 21) rfl)) (by decide) (by decide)) (g := (mkF m 1 #[.val (.ref xa), .val (.int xn)] [(.ref xa)])) rfl (by rw [hml]; rfl) (Steps.refl _) (a := xa) (argsL := []) (rest := []) (lenOf pd_0 rfl) rfl (by show 2 * 0 + _ ≤ _; exact Nat.le_of_eq rfl) (hb hby d_jdk_2005_method_2_1) (fun _ _ => ⟨rfl, e0, (by decide : 0 + 0 ≤ _), (by decide : 0 + 0 ≤ _)⟩)
  dsimp only [Pt.U, Pt.locs, Pt.cells, Pt.slots] at X1 l1 y1 z1 st1 hQ1
  subst l1 y1 z1
  obtain ⟨rfl, N1q, e1⟩ := hQ1
  have N1 := Fr.app N0 N1q
  obtain ⟨T2, h2, k2, X2, e2, E2, A2, B2, st2⟩ := newPE X1 hx hZ (hw _ (List.mem_of_getElem? (i := 1) rfl)) e1 (g := (mkF m 37 #[.val (.ref xa), .val (.int xn)] [(.int xn), (.ref xa)])) rfl (hb hby d_jdk_2005_method_2_37) rfl (by rw [h32]; decide) (cap := 32) (by rw [h32]; decide) (by decide) (by decide) (by decide) (ad := "[B") (by decide)
  obtain ⟨b2, g2⟩ : ∃ z, z = h0.size := ⟨_, rfl⟩
  rw [← g2] at A2 B2 st2
  have g_b2 : n0 ≤ b2 := Nat.le_trans Z0 (Nat.le_of_eq g2.symm)
  have ne_ar_b2 : ar ≠ b2 := Nat.ne_of_lt (Nat.lt_of_lt_of_le Ay.lt (Nat.le_of_eq g2.symm))
  have F2_buf := Fb.ext E2
  have F2_count := Fc.ext E2
  have Ex2_xa := Ex.ext E2
  have A2_ar := Ay.ext E2
  have Un2_xa := Un.ext E2
  have V_b2 : BA Z h2 b2 (List.replicate 32 0) := BA.new 32 A2 B2 (by decide) h32
  obtain ⟨T3, h3, X3, e3, W3, st3⟩ := putF X2 hx hZ hown (host := "") (Or.inl (hw _ (List.mem_of_getElem? (i := 26) rfl))) Via.refl e2 F2_buf Ex2_xa (Or.inl (hw _ (List.mem_of_getElem? (i := 27) rfl))) (hw _ (List.mem_of_getElem? (i := 3) rfl)) (ty := (.array .byte)) (by decide) rfl rfl (g := (mkF m 39 #[.val (.ref xa), .val (.int xn)] [(.ref b2), (.ref xa)])) rfl rfl (hb hby d_jdk_2005_method_2_39)
  have F3_buf := F2_buf.same W3
  have F3_count := F2_count.other W3 (Or.inr (slot_ne (Or.inl (hw _ (List.mem_of_getElem? (i := 43) rfl))) (Or.inl (hw _ (List.mem_of_getElem? (i := 27) rfl))) (by decide) (t := .int) (t' := (.array .byte)) (by decide) (by decide)))
  have Ex3_xa := Ex2_xa.wr W3
  have A3_ar := A2_ar.other W3 (Ne.symm (A2_ar.neE Ex2_xa (by decide)))
  have A3_b2 := V_b2.other W3 (Ne.symm (V_b2.neE Ex2_xa (by decide)))
  have Un3_xa := Un2_xa.wr W3
  have N3 := Fr.snoc X3 N1 ga
  obtain ⟨fs, hr, hrun, hended, hW, hsame⟩ := X3.leave (v := none) (fun _ => rfl)
  refine ⟨_, _, pre0 _ ?_, hrun, hended, _, _, rfl, ?_, ⟨_, rfl⟩, hW, hsame.mono (by decide) (by decide)⟩
  · show Steps p.tables e below (s₁.setTop (mkF m 0 #[.val (.ref xa), .val (.int xn)] [])) _
    refine XS.aloadN X0.here hx rfl (hb hby d_jdk_2005_method_2_0) rfl rfl ?_
    show Steps p.tables e below (s₁.setTop (mkF m 1 #[.val (.ref xa), .val (.int xn)] [(.ref xa)])) _
    refine st1.trans ?_
    show Steps p.tables e below (T1.setTop (mkF m 4 #[.val (.ref xa), .val (.int xn)] [])) _
    refine XS.iloadN X1.here hx rfl (hb hby d_jdk_2005_method_2_4) rfl ?_
    show Steps p.tables e below (T1.setTop (mkF m 5 #[.val (.ref xa), .val (.int xn)] [(.int xn)])) _
    refine XS.ifYes X1.here hx rfl (pc0 := 5) (pc' := 35) rfl (hb hby d_jdk_2005_method_2_5) rfl ((if0 _ _).trans (flt (by rw [h32]; decide)).2.1) (by decide) (by decide) ?_
    show Steps p.tables e below (T1.setTop (mkF m 35 #[.val (.ref xa), .val (.int xn)] [])) _
    refine XS.aloadN X1.here hx rfl (hb hby d_jdk_2005_method_2_35) rfl rfl ?_
    show Steps p.tables e below (T1.setTop (mkF m 36 #[.val (.ref xa), .val (.int xn)] [(.ref xa)])) _
    refine XS.iloadN X1.here hx rfl (hb hby d_jdk_2005_method_2_36) rfl ?_
    show Steps p.tables e below (T1.setTop (mkF m 37 #[.val (.ref xa), .val (.int xn)] [(.int xn), (.ref xa)])) _
    refine st2 _ ?_
    show Steps p.tables e below (T2.setTop (mkF m 39 #[.val (.ref xa), .val (.int xn)] [(.ref b2), (.ref xa)])) _
    refine st3 _ ?_
    show Steps p.tables e below (T3.setTop (mkF m 42 #[.val (.ref xa), .val (.int xn)] [])) _
    exact X3.returnOut hx Bd.returns (hb hby d_jdk_2005_method_2_42) hr
  · show Q_bi Z xa xn ar ys h0 n0 _ T3.heap _
    rw [e3]
    exact ⟨rfl, N3, ⟨b2, Ex3_xa, Un3_xa, F3_buf, F3_count, A3_b2, A3_ar, (Ne.symm ne_ar_b2), ga, g_b2⟩⟩
theorem d_jdk_2005_method_1_0 : decode jdk_2005_method_1_code 0 = .ok (.aload_n 0, 1) := by decide +kernel
theorem d_jdk_2005_method_1_1 : decode jdk_2005_method_1_code 1 = .ok (.bipush 32, 2) := by decide +kernel
theorem d_jdk_2005_method_1_3 : decode jdk_2005_method_1_code 3 = .ok (.invokespecial 1, 3) := by decide +kernel
theorem d_jdk_2005_method_1_6 : decode jdk_2005_method_1_code 6 = .ok (.return_, 1) := by decide +kernel
theorem pd_1 : parseMethodDescriptor "(I)V" = some ⟨[.int], none⟩ := by decide +kernel
theorem ef_b0 (m : MethodId) (xa : Addr) : entryFrame m #[(.ref xa)] 1 = mkF m 0 #[.val (.ref xa)] [] := by first | (simp [entryFrame, mkF, argsToLocals, Value.category]; done) | rfl
def Q_b0 (Z : State) (xa : Addr) (ar : Addr) (ys : List Int32) (h0 : Heap) (n0 : Nat) (v : Option Value) (h : Heap) (L : List Loc) : Prop := v = none ∧ Fr n0 L ∧ RO Z n0 h xa ar (List.replicate 32 0) 0 ys
set_option maxRecDepth 65536 in
set_option maxHeartbeats 40000000 in
theorem rm_b0 (l : Launch) (Z : State) (a0 : Array Value) (hw : ∀ d ∈ tables_1, d.before a0 Z = true) (ws : List Jvm.Cond) (xa : Addr) (ar : Addr) (ys : List Int32) (h0 : Heap) (n0 : Nat) (Z0 : n0 ≤ h0.size) (Ex : Exa Z h0 xa "com/example/driftstone/driftstone/core/RecordOutput") (Un : Unt h0 xa) (ga : n0 ≤ xa) (Fb : Fld Z h0 xa "java/io/ByteArrayOutputStream" "buf" "[B" .null) (Fc : Fld Z h0 xa "java/io/ByteArrayOutputStream" "count" "I" (.int (0 : Int32))) (Ay : BA Z h0 ar ys) :
    MetFree l (⟨"java/io/ByteArrayOutputStream", "<init>", "()V"⟩ : MethodName) (head1 (Jvm.Cond.code (⟨"java/io/ByteArrayOutputStream", "<init>", "()V"⟩ : MethodName) jdk_2005_method_1_code 1 none :: ws) ({ frames := 3, cells := 1, slots := 32, locals := 37 } : Room)) (fun a U => a = #[(.ref xa)] ∧ Z.Warmed39 U.vm ∧ U.heap = h0) (fun _ _ _ _ _ => True) (fun _ U o U' => ∃ v L, o = .returned v ∧ Q_b0 Z xa ar ys h0 n0 v U'.heap L ∧ FrameEnd U o U' L ({ frames := 3, cells := 1, slots := 32, locals := 37 } : Room).cells ({ frames := 3, cells := 1, slots := 32, locals := 37 } : Room).slots) := by
  refine MetFree.of_bodySF (plainFor_of_name pn_1) hisR ?_
  intro p e s m args below meth c s₁ Bd hml0 hP hK
  obtain ⟨rfl, hZ, hh⟩ := hP
  have hx := Bd.exec
  have hby := Bd.bytes
  have hml : c.maxLocals = 1 := hml0
  have hown : s.vm.findClass "java/io/ByteArrayOutputStream" = some m.cls := findClass_of_methodNamed Bd.named
  have hnm := (name_of_methodNamed Bd.named Bd.method).1
  have X0 : Stand p l e ({ frames := 3, cells := 1, slots := 32, locals := 37 } : Room) s m #[(.ref xa)] below meth c s₁ [] 0 0 := Stand.of_body Bd
  have e0 : s₁.heap = h0 := by rw [← hh, Bd.state]; rfl
  have N0 := Fr.nil n0
  have pre0 : ∀ t, Steps p.tables e below (s₁.setTop (mkF m 0 #[.val (.ref xa)] [])) t → Steps p.tables e below (s₁.setTop (entryFrame m #[(.ref xa)] 1)) t := fun t k => castTop (ef_b0 m xa) k
  obtain ⟨_, _, ⟨T1, L1, k1, n1⟩, -, X1, ⟨Lc1, hQ1, l1, y1, z1⟩, st1⟩ := X0.specialBack hx (y := (⟨"java/io/ByteArrayOutputStream", "<init>", "(I)V"⟩ : MethodName)) rfl hown (mvT hZ (hw _ (List.mem_of_getElem? (i := 13) rfl))) (mvT hZ (hw _ (List.mem_of_getElem? (i := 14) rfl))) (mvT hZ (hw _ (List.mem_of_getElem? (i := 16) rfl))) (by decide) (backOf (W := 0) (rm_bi l Z a0 hw [] xa (32 : Int32) ar ys h0 n0 Z0 Ex Un ga Fb Fc Ay rfl) hZ (hw _ (List.mem_of_getElem? (i := 16) rfl)) (hw _ (List.mem_of_getElem? (i := 11) rfl)) (by decide) (by decide)) (g := (mkF m 3 #[.val (.ref xa)] [(.int (32 : Int32)), (.ref xa)])) rfl (by rw [hml]; rfl) (Steps.refl _) (a := xa) (argsL := [(.int (32 : Int32))]) (rest := []) (lenOf pd_1 rfl) rfl (by show 2 * 0 + _ ≤ _; exact Nat.le_of_eq rfl) (hb hby d_jdk_2005_method_1_3) (fun _ _ => ⟨rfl, e0, (by decide : 0 + 1 ≤ _), (by decide : 0 + 32 ≤ _)⟩)
  dsimp only [Pt.U, Pt.locs, Pt.cells, Pt.slots] at X1 l1 y1 z1 st1 hQ1
  subst l1 y1 z1
  obtain ⟨rfl, N1q, hS1⟩ := hQ1
  have N1 := Fr.app N0 N1q
  obtain ⟨fs, hr, hrun, hended, hW, hsame⟩ := X1.leave (v := none) (fun _ => rfl)
  refine ⟨_, _, pre0 _ ?_, hrun, hended, _, _, rfl, ?_, ⟨_, rfl⟩, hW, hsame.mono (by decide) (by decide)⟩
  · show Steps p.tables e below (s₁.setTop (mkF m 0 #[.val (.ref xa)] [])) _
    refine XS.aloadN X0.here hx rfl (hb hby d_jdk_2005_method_1_0) rfl rfl ?_
    show Steps p.tables e below (s₁.setTop (mkF m 1 #[.val (.ref xa)] [(.ref xa)])) _
    refine XS.bipush X0.here hx rfl (hb hby d_jdk_2005_method_1_1) ?_
    show Steps p.tables e below (s₁.setTop (mkF m 3 #[.val (.ref xa)] [(.int (32 : Int32)), (.ref xa)])) _
    refine st1.trans ?_
    show Steps p.tables e below (T1.setTop (mkF m 6 #[.val (.ref xa)] [])) _
    exact X1.returnOut hx Bd.returns (hb hby d_jdk_2005_method_1_6) hr
  · show Q_b0 Z xa ar ys h0 n0 _ T1.heap _
    exact ⟨rfl, N1, hS1⟩
theorem d_prog_6_method_1_0 : decode prog_6_method_1_code 0 = .ok (.aload_n 0, 1) := by decide +kernel
theorem d_prog_6_method_1_1 : decode prog_6_method_1_code 1 = .ok (.invokespecial 1, 3) := by decide +kernel
theorem d_prog_6_method_1_4 : decode prog_6_method_1_code 4 = .ok (.return_, 1) := by decide +kernel
theorem pn_2 : plainName "com/example/driftstone/driftstone/core/RecordOutput" = true := by first | (simp [plainName, overriddenIn]; done) | decide +kernel
theorem ef_ri (m : MethodId) (xa : Addr) : entryFrame m #[(.ref xa)] 1 = mkF m 0 #[.val (.ref xa)] [] := by first | (simp [entryFrame, mkF, argsToLocals, Value.category]; done) | rfl
def Q_ri (Z : State) (xa : Addr) (ar : Addr) (ys : List Int32) (h0 : Heap) (n0 : Nat) (v : Option Value) (h : Heap) (L : List Loc) : Prop := v = none ∧ Fr n0 L ∧ RO Z n0 h xa ar (List.replicate 32 0) 0 ys
set_option maxRecDepth 65536 in
set_option maxHeartbeats 40000000 in
theorem rm_ri (l : Launch) (Z : State) (a0 : Array Value) (hw : ∀ d ∈ tables_1, d.before a0 Z = true) (ws : List Jvm.Cond) (xa : Addr) (ar : Addr) (ys : List Int32) (h0 : Heap) (n0 : Nat) (Z0 : n0 ≤ h0.size) (Ex : Exa Z h0 xa "com/example/driftstone/driftstone/core/RecordOutput") (Un : Unt h0 xa) (ga : n0 ≤ xa) (Fb : Fld Z h0 xa "java/io/ByteArrayOutputStream" "buf" "[B" .null) (Fc : Fld Z h0 xa "java/io/ByteArrayOutputStream" "count" "I" (.int (0 : Int32))) (Ay : BA Z h0 ar ys) :
    MetFree l (⟨"com/example/driftstone/driftstone/core/RecordOutput", "<init>", "()V"⟩ : MethodName) (head1 (Jvm.Cond.code (⟨"com/example/driftstone/driftstone/core/RecordOutput", "<init>", "()V"⟩ : MethodName) prog_6_method_1_code 1 none :: ws) ({ frames := 4, cells := 1, slots := 32, locals := 49 } : Room)) (fun a U => a = #[(.ref xa)] ∧ Z.Warmed39 U.vm ∧ U.heap = h0) (fun _ _ _ _ _ => True) (fun _ U o U' => ∃ v L, o = .returned v ∧ Q_ri Z xa ar ys h0 n0 v U'.heap L ∧ FrameEnd U o U' L ({ frames := 4, cells := 1, slots := 32, locals := 49 } : Room).cells ({ frames := 4, cells := 1, slots := 32, locals := 49 } : Room).slots) := by
  refine MetFree.of_bodySF (plainFor_of_name pn_2) hisR ?_
  intro p e s m args below meth c s₁ Bd hml0 hP hK
  obtain ⟨rfl, hZ, hh⟩ := hP
  have hx := Bd.exec
  have hby := Bd.bytes
  have hml : c.maxLocals = 1 := hml0
  have hown : s.vm.findClass "com/example/driftstone/driftstone/core/RecordOutput" = some m.cls := findClass_of_methodNamed Bd.named
  have hnm := (name_of_methodNamed Bd.named Bd.method).1
  have X0 : Stand p l e ({ frames := 4, cells := 1, slots := 32, locals := 49 } : Room) s m #[(.ref xa)] below meth c s₁ [] 0 0 := Stand.of_body Bd
  have e0 : s₁.heap = h0 := by rw [← hh, Bd.state]; rfl
  have N0 := Fr.nil n0
  have pre0 : ∀ t, Steps p.tables e below (s₁.setTop (mkF m 0 #[.val (.ref xa)] [])) t → Steps p.tables e below (s₁.setTop (entryFrame m #[(.ref xa)] 1)) t := fun t k => castTop (ef_ri m xa) k
  obtain ⟨_, _, ⟨T1, L1, k1, n1⟩, -, X1, ⟨Lc1, hQ1, l1, y1, z1⟩, st1⟩ := X0.specialBack hx (y := (⟨"java/io/ByteArrayOutputStream", "<init>", "()V"⟩ : MethodName)) rfl hown (mvT hZ (hw _ (List.mem_of_getElem? (i := 8) rfl))) (mvT hZ (hw _ (List.mem_of_getElem? (i := 9) rfl))) (mvT hZ (hw _ (List.mem_of_getElem? (i := 12) rfl))) (by decide) (backOf (W := 0) (rm_b0 l Z a0 hw [] xa ar ys h0 n0 Z0 Ex Un ga Fb Fc Ay) hZ (hw _ (List.mem_of_getElem? (i := 12) rfl)) (hw _ (List.mem_of_getElem? (i := 11) rfl)) (by decide) (by decide)) (g := (mkF m 1 #[.val (.ref xa)] [(.ref xa)])) rfl (by rw [hml]; rfl) (Steps.refl _) (a := xa) (argsL := []) (rest := []) (lenOf pd_0 rfl) rfl (by show 2 * 0 + _ ≤ _; exact Nat.le_of_eq rfl) (hb hby d_prog_6_method_1_1) (fun _ _ => ⟨rfl, e0, (by decide : 0 + 1 ≤ _), (by decide : 0 + 32 ≤ _)⟩)
  dsimp only [Pt.U, Pt.locs, Pt.cells, Pt.slots] at X1 l1 y1 z1 st1 hQ1
  subst l1 y1 z1
  obtain ⟨rfl, N1q, hS1⟩ := hQ1
  have N1 := Fr.app N0 N1q
  obtain ⟨fs, hr, hrun, hended, hW, hsame⟩ := X1.leave (v := none) (fun _ => rfl)
  refine ⟨_, _, pre0 _ ?_, hrun, hended, _, _, rfl, ?_, ⟨_, rfl⟩, hW, hsame.mono (by decide) (by decide)⟩
  · show Steps p.tables e below (s₁.setTop (mkF m 0 #[.val (.ref xa)] [])) _
    refine XS.aloadN X0.here hx rfl (hb hby d_prog_6_method_1_0) rfl rfl ?_
    show Steps p.tables e below (s₁.setTop (mkF m 1 #[.val (.ref xa)] [(.ref xa)])) _
    refine st1.trans ?_
    show Steps p.tables e below (T1.setTop (mkF m 4 #[.val (.ref xa)] [])) _
    exact X1.returnOut hx Bd.returns (hb hby d_prog_6_method_1_4) hr
  · show Q_ri Z xa ar ys h0 n0 _ T1.heap _
    exact ⟨rfl, N1, hS1⟩
theorem d_jdk_41_method_13_0 : decode jdk_41_method_13_code 0 = .ok (.iload_n 2, 1) := by decide +kernel
theorem d_jdk_41_method_13_1 : decode jdk_41_method_13_code 1 = .ok (.iload_n 0, 1) := by decide +kernel
theorem d_jdk_41_method_13_2 : decode jdk_41_method_13_code 2 = .ok (.ior, 1) := by decide +kernel
theorem d_jdk_41_method_13_3 : decode jdk_41_method_13_code 3 = .ok (.iload_n 1, 1) := by decide +kernel
theorem d_jdk_41_method_13_4 : decode jdk_41_method_13_code 4 = .ok (.ior, 1) := by decide +kernel
theorem d_jdk_41_method_13_5 : decode jdk_41_method_13_code 5 = .ok (.ifCond .lt 10, 3) := by decide +kernel
theorem d_jdk_41_method_13_8 : decode jdk_41_method_13_code 8 = .ok (.iload_n 1, 1) := by decide +kernel
theorem d_jdk_41_method_13_9 : decode jdk_41_method_13_code 9 = .ok (.iload_n 2, 1) := by decide +kernel
theorem d_jdk_41_method_13_10 : decode jdk_41_method_13_code 10 = .ok (.iload_n 0, 1) := by decide +kernel
theorem d_jdk_41_method_13_11 : decode jdk_41_method_13_code 11 = .ok (.isub, 1) := by decide +kernel
theorem d_jdk_41_method_13_12 : decode jdk_41_method_13_code 12 = .ok (.if_icmp .le 11, 3) := by decide +kernel
theorem d_jdk_41_method_13_23 : decode jdk_41_method_13_code 23 = .ok (.iload_n 0, 1) := by decide +kernel
theorem d_jdk_41_method_13_24 : decode jdk_41_method_13_code 24 = .ok (.ireturn, 1) := by decide +kernel
theorem pn_3 : plainName "jdk/internal/util/Preconditions" = true := by first | (simp [plainName, overriddenIn]; done) | decide +kernel
theorem ef_pre (m : MethodId) (xf : Int32) (xs : Int32) (xl : Int32) : entryFrame m #[(.int xf), (.int xs), (.int xl), .null] 4 = mkF m 0 #[.val (.int xf), .val (.int xs), .val (.int xl), .val .null] [] := by first | (simp [entryFrame, mkF, argsToLocals, Value.category]; done) | rfl
def Q_pre (Z : State) (xf : Int32) (xs : Int32) (xl : Int32) (h0 : Heap) (n0 : Nat) (v : Option Value) (h : Heap) (L : List Loc) : Prop := v = some (.int xf) ∧ Fr n0 L ∧ h = h0
set_option maxRecDepth 65536 in
set_option maxHeartbeats 40000000 in
theorem rm_pre (l : Launch) (Z : State) (a0 : Array Value) (hw : ∀ d ∈ tables_1, d.before a0 Z = true) (ws : List Jvm.Cond) (xf : Int32) (xs : Int32) (xl : Int32) (h0 : Heap) (n0 : Nat) (Z0 : n0 ≤ h0.size) (hc5 : ¬ (((xl ||| xf) ||| xs) < (0 : Int32))) (hc12 : ¬ ((xl - xf) < xs)) :
    MetFree l (⟨"jdk/internal/util/Preconditions", "checkFromIndexSize", "(IIILjava/util/function/BiFunction;)I"⟩ : MethodName) (head1 (Jvm.Cond.code (⟨"jdk/internal/util/Preconditions", "checkFromIndexSize", "(IIILjava/util/function/BiFunction;)I"⟩ : MethodName) jdk_41_method_13_code 4 (some .int) :: ws) ({ frames := 0, cells := 0, slots := 0, locals := 0 } : Room)) (fun a U => a = #[(.int xf), (.int xs), (.int xl), .null] ∧ Z.Warmed39 U.vm ∧ U.heap = h0) (fun _ _ _ _ _ => True) (fun _ U o U' => ∃ v L, o = .returned v ∧ Q_pre Z xf xs xl h0 n0 v U'.heap L ∧ FrameEnd U o U' L ({ frames := 0, cells := 0, slots := 0, locals := 0 } : Room).cells ({ frames := 0, cells := 0, slots := 0, locals := 0 } : Room).slots) := by
  refine MetFree.of_bodySF (plainFor_of_name pn_3) hisR ?_
  intro p e s m args below meth c s₁ Bd hml0 hP hK
  obtain ⟨rfl, hZ, hh⟩ := hP
  have hx := Bd.exec
  have hby := Bd.bytes
  have hml : c.maxLocals = 4 := hml0
  have hown : s.vm.findClass "jdk/internal/util/Preconditions" = some m.cls := findClass_of_methodNamed Bd.named
  have X0 : Stand p l e ({ frames := 0, cells := 0, slots := 0, locals := 0 } : Room) s m #[(.int xf), (.int xs), (.int xl), .null] below meth c s₁ [] 0 0 := Stand.of_body Bd
  have e0 : s₁.heap = h0 := by rw [← hh, Bd.state]; rfl
  have N0 := Fr.nil n0
  have pre0 : ∀ t, Steps p.tables e below (s₁.setTop (mkF m 0 #[.val (.int xf), .val (.int xs), .val (.int xl), .val .null] [])) t → Steps p.tables e below (s₁.setTop (entryFrame m #[(.int xf), (.int xs), (.int xl), .null] 4)) t := fun t k => castTop (ef_pre m xf xs xl) k
  obtain ⟨fs, hr, hrun, hended, hW, hsame⟩ := X0.leave (v := some (.int xf)) (fun h => by rw [Bd.returns] at h; cases h)
  refine ⟨_, _, pre0 _ ?_, hrun, hended, _, _, rfl, ?_, ⟨_, rfl⟩, hW, hsame.mono (by decide) (by decide)⟩
  · show Steps p.tables e below (s₁.setTop (mkF m 0 #[.val (.int xf), .val (.int xs), .val (.int xl), .val .null] [])) _
    refine XS.iloadN X0.here hx rfl (hb hby d_jdk_41_method_13_0) rfl ?_
    show Steps p.tables e below (s₁.setTop (mkF m 1 #[.val (.int xf), .val (.int xs), .val (.int xl), .val .null] [(.int xl)])) _
    refine XS.iloadN X0.here hx rfl (hb hby d_jdk_41_method_13_1) rfl ?_
    show Steps p.tables e below (s₁.setTop (mkF m 2 #[.val (.int xf), .val (.int xs), .val (.int xl), .val .null] [(.int xf), (.int xl)])) _
    refine XS.ior X0.here hx rfl (hb hby d_jdk_41_method_13_2) rfl ?_
    show Steps p.tables e below (s₁.setTop (mkF m 3 #[.val (.int xf), .val (.int xs), .val (.int xl), .val .null] [(.int (xl ||| xf))])) _
    refine XS.iloadN X0.here hx rfl (hb hby d_jdk_41_method_13_3) rfl ?_
    show Steps p.tables e below (s₁.setTop (mkF m 4 #[.val (.int xf), .val (.int xs), .val (.int xl), .val .null] [(.int xs), (.int (xl ||| xf))])) _
    refine XS.ior X0.here hx rfl (hb hby d_jdk_41_method_13_4) rfl ?_
    show Steps p.tables e below (s₁.setTop (mkF m 5 #[.val (.int xf), .val (.int xs), .val (.int xl), .val .null] [(.int ((xl ||| xf) ||| xs))])) _
    refine XS.ifNo X0.here hx rfl (hb hby d_jdk_41_method_13_5) rfl ((if0 _ _).trans (flt hc5).1) ?_
    show Steps p.tables e below (s₁.setTop (mkF m 8 #[.val (.int xf), .val (.int xs), .val (.int xl), .val .null] [])) _
    refine XS.iloadN X0.here hx rfl (hb hby d_jdk_41_method_13_8) rfl ?_
    show Steps p.tables e below (s₁.setTop (mkF m 9 #[.val (.int xf), .val (.int xs), .val (.int xl), .val .null] [(.int xs)])) _
    refine XS.iloadN X0.here hx rfl (hb hby d_jdk_41_method_13_9) rfl ?_
    show Steps p.tables e below (s₁.setTop (mkF m 10 #[.val (.int xf), .val (.int xs), .val (.int xl), .val .null] [(.int xl), (.int xs)])) _
    refine XS.iloadN X0.here hx rfl (hb hby d_jdk_41_method_13_10) rfl ?_
    show Steps p.tables e below (s₁.setTop (mkF m 11 #[.val (.int xf), .val (.int xs), .val (.int xl), .val .null] [(.int xf), (.int xl), (.int xs)])) _
    refine XS.isub X0.here hx rfl (hb hby d_jdk_41_method_13_11) rfl ?_
    show Steps p.tables e below (s₁.setTop (mkF m 12 #[.val (.int xf), .val (.int xs), .val (.int xl), .val .null] [(.int (xl - xf)), (.int xs)])) _
    refine XS.icmpYes X0.here hx rfl (pc0 := 12) (pc' := 23) rfl (hb hby d_jdk_41_method_13_12) rfl (flt hc12).2.2.2 (by decide) (by decide) ?_
    show Steps p.tables e below (s₁.setTop (mkF m 23 #[.val (.int xf), .val (.int xs), .val (.int xl), .val .null] [])) _
    refine XS.iloadN X0.here hx rfl (hb hby d_jdk_41_method_13_23) rfl ?_
    show Steps p.tables e below (s₁.setTop (mkF m 24 #[.val (.int xf), .val (.int xs), .val (.int xl), .val .null] [(.int xf)])) _
    exact retI X0 hx Bd.returns (hb hby d_jdk_41_method_13_24) hr
  · show Q_pre Z xf xs xl h0 n0 _ s₁.heap _
    exact ⟨rfl, N0, e0⟩
theorem d_jdk_31_method_19_0 : decode jdk_31_method_19_code 0 = .ok (.iload_n 0, 1) := by decide +kernel
theorem d_jdk_31_method_19_1 : decode jdk_31_method_19_code 1 = .ok (.iload_n 1, 1) := by decide +kernel
theorem d_jdk_31_method_19_2 : decode jdk_31_method_19_code 2 = .ok (.iload_n 2, 1) := by decide +kernel
theorem d_jdk_31_method_19_3 : decode jdk_31_method_19_code 3 = .ok (.aconst_null, 1) := by decide +kernel
theorem d_jdk_31_method_19_4 : decode jdk_31_method_19_code 4 = .ok (.invokestatic 115, 3) := by decide +kernel
theorem d_jdk_31_method_19_7 : decode jdk_31_method_19_code 7 = .ok (.ireturn, 1) := by decide +kernel
theorem pn_4 : plainName "java/util/Objects" = true := by first | (simp [plainName, overriddenIn]; done) | decide +kernel
theorem pd_2 : parseMethodDescriptor "(IIILjava/util/function/BiFunction;)I" = some ⟨[.int, .int, .int, (.object "java/util/function/BiFunction")], some .int⟩ := by decide +kernel
theorem ef_chk (m : MethodId) (xf : Int32) (xs : Int32) (xl : Int32) : entryFrame m #[(.int xf), (.int xs), (.int xl)] 3 = mkF m 0 #[.val (.int xf), .val (.int xs), .val (.int xl)] [] := by first | (simp [entryFrame, mkF, argsToLocals, Value.category]; done) | rfl
def Q_chk (Z : State) (xf : Int32) (xs : Int32) (xl : Int32) (h0 : Heap) (n0 : Nat) (v : Option Value) (h : Heap) (L : List Loc) : Prop := v = some (.int xf) ∧ Fr n0 L ∧ h = h0
set_option maxRecDepth 65536 in
set_option maxHeartbeats 40000000 in
theorem rm_chk (l : Launch) (Z : State) (a0 : Array Value) (hw : ∀ d ∈ tables_1, d.before a0 Z = true) (ws : List Jvm.Cond) (xf : Int32) (xs : Int32) (xl : Int32) (h0 : Heap) (n0 : Nat) (Z0 : n0 ≤ h0.size) (h5 : ¬ (((xl ||| xf) ||| xs) < (0 : Int32))) (h12 : ¬ ((xl - xf) < xs)) :
    MetFree l (⟨"java/util/Objects", "checkFromIndexSize", "(III)I"⟩ : MethodName) (head1 (Jvm.Cond.code (⟨"java/util/Objects", "checkFromIndexSize", "(III)I"⟩ : MethodName) jdk_31_method_19_code 3 (some .int) :: ws) ({ frames := 1, cells := 0, slots := 0, locals := 15 } : Room)) (fun a U => a = #[(.int xf), (.int xs), (.int xl)] ∧ Z.Warmed39 U.vm ∧ U.heap = h0) (fun _ _ _ _ _ => True) (fun _ U o U' => ∃ v L, o = .returned v ∧ Q_chk Z xf xs xl h0 n0 v U'.heap L ∧ FrameEnd U o U' L ({ frames := 1, cells := 0, slots := 0, locals := 15 } : Room).cells ({ frames := 1, cells := 0, slots := 0, locals := 15 } : Room).slots) := by
  refine MetFree.of_bodySF (plainFor_of_name pn_4) hisR ?_
  intro p e s m args below meth c s₁ Bd hml0 hP hK
  obtain ⟨rfl, hZ, hh⟩ := hP
  have hx := Bd.exec
  have hby := Bd.bytes
  have hml : c.maxLocals = 3 := hml0
  have hown : s.vm.findClass "java/util/Objects" = some m.cls := findClass_of_methodNamed Bd.named
  have X0 : Stand p l e ({ frames := 1, cells := 0, slots := 0, locals := 15 } : Room) s m #[(.int xf), (.int xs), (.int xl)] below meth c s₁ [] 0 0 := Stand.of_body Bd
  have e0 : s₁.heap = h0 := by rw [← hh, Bd.state]; rfl
  have N0 := Fr.nil n0
  have pre0 : ∀ t, Steps p.tables e below (s₁.setTop (mkF m 0 #[.val (.int xf), .val (.int xs), .val (.int xl)] [])) t → Steps p.tables e below (s₁.setTop (entryFrame m #[(.int xf), (.int xs), (.int xl)] 3)) t := fun t k => castTop (ef_chk m xf xs xl) k
  obtain ⟨_, _, ⟨T1, L1, k1, n1⟩, -, X1, ⟨Lc1, hQ1, l1, y1, z1⟩, st1⟩ := Jvm.LawKit.callS X0 hx (y := (⟨"jdk/internal/util/Preconditions", "checkFromIndexSize", "(IIILjava/util/function/BiFunction;)I"⟩ : MethodName)) hown (mvT hZ (hw _ (List.mem_of_getElem? (i := 38) rfl))) (mvT hZ (hw _ (List.mem_of_getElem? (i := 39) rfl))) (mvT hZ (hw _ (List.mem_of_getElem? (i := 40) rfl))) (mvT hZ (hw _ (List.mem_of_getElem? (i := 41) rfl))) (by decide) (backOf (W := 0) (rm_pre l Z a0 hw [] xf xs xl h0 n0 Z0 h5 h12) hZ (hw _ (List.mem_of_getElem? (i := 41) rfl)) (hw _ (List.mem_of_getElem? (i := 40) rfl)) (by decide) (by decide)) (g := (mkF m 4 #[.val (.int xf), .val (.int xs), .val (.int xl)] [.null, (.int xl), (.int xs), (.int xf)])) rfl (by rw [hml]; rfl) (argsL := [(.int xf), (.int xs), (.int xl), .null]) (rest := []) (lenOf pd_2 rfl) rfl (by show 2 * 0 + _ ≤ _; exact Nat.le_of_eq rfl) (hb hby d_jdk_31_method_19_4) (fun _ _ => ⟨rfl, e0, (by decide : 0 + 0 ≤ _), (by decide : 0 + 0 ≤ _)⟩)
  dsimp only [Pt.U, Pt.locs, Pt.cells, Pt.slots] at X1 l1 y1 z1 st1 hQ1
  subst l1 y1 z1
  obtain ⟨rfl, N1q, e1⟩ := hQ1
  have N1 := Fr.app N0 N1q
  obtain ⟨fs, hr, hrun, hended, hW, hsame⟩ := X1.leave (v := some (.int xf)) (fun h => by rw [Bd.returns] at h; cases h)
  refine ⟨_, _, pre0 _ ?_, hrun, hended, _, _, rfl, ?_, ⟨_, rfl⟩, hW, hsame.mono (by decide) (by decide)⟩
  · show Steps p.tables e below (s₁.setTop (mkF m 0 #[.val (.int xf), .val (.int xs), .val (.int xl)] [])) _
    refine XS.iloadN X0.here hx rfl (hb hby d_jdk_31_method_19_0) rfl ?_
    show Steps p.tables e below (s₁.setTop (mkF m 1 #[.val (.int xf), .val (.int xs), .val (.int xl)] [(.int xf)])) _
    refine XS.iloadN X0.here hx rfl (hb hby d_jdk_31_method_19_1) rfl ?_
    show Steps p.tables e below (s₁.setTop (mkF m 2 #[.val (.int xf), .val (.int xs), .val (.int xl)] [(.int xs), (.int xf)])) _
    refine XS.iloadN X0.here hx rfl (hb hby d_jdk_31_method_19_2) rfl ?_
    show Steps p.tables e below (s₁.setTop (mkF m 3 #[.val (.int xf), .val (.int xs), .val (.int xl)] [(.int xl), (.int xs), (.int xf)])) _
    refine XS.aconstNull X0.here hx rfl (hb hby d_jdk_31_method_19_3) ?_
    show Steps p.tables e below (s₁.setTop (mkF m 4 #[.val (.int xf), .val (.int xs), .val (.int xl)] [.null, (.int xl), (.int xs), (.int xf)])) _
    refine st1 _ ?_
    show Steps p.tables e below (T1.setTop (mkF m 7 #[.val (.int xf), .val (.int xs), .val (.int xl)] [(.int xf)])) _
    exact retI X1 hx Bd.returns (hb hby d_jdk_31_method_19_7) hr
  · show Q_chk Z xf xs xl h0 n0 _ T1.heap _
    exact ⟨rfl, N1, e1⟩
theorem d_jdk_2005_method_3_0 : decode jdk_2005_method_3_code 0 = .ok (.aload_n 0, 1) := by decide +kernel
theorem d_jdk_2005_method_3_1 : decode jdk_2005_method_3_code 1 = .ok (.getfield 33, 3) := by decide +kernel
theorem d_jdk_2005_method_3_4 : decode jdk_2005_method_3_code 4 = .ok (.arraylength, 1) := by decide +kernel
theorem d_jdk_2005_method_3_5 : decode jdk_2005_method_3_code 5 = .ok (.istore_n 2, 1) := by decide +kernel
theorem d_jdk_2005_method_3_6 : decode jdk_2005_method_3_code 6 = .ok (.iload_n 1, 1) := by decide +kernel
theorem d_jdk_2005_method_3_7 : decode jdk_2005_method_3_code 7 = .ok (.iload_n 2, 1) := by decide +kernel
theorem d_jdk_2005_method_3_8 : decode jdk_2005_method_3_code 8 = .ok (.isub, 1) := by decide +kernel
theorem d_jdk_2005_method_3_9 : decode jdk_2005_method_3_code 9 = .ok (.istore_n 3, 1) := by decide +kernel
theorem d_jdk_2005_method_3_10 : decode jdk_2005_method_3_code 10 = .ok (.iload_n 3, 1) := by decide +kernel
theorem d_jdk_2005_method_3_11 : decode jdk_2005_method_3_code 11 = .ok (.ifCond .le 20, 3) := by decide +kernel
theorem d_jdk_2005_method_3_31 : decode jdk_2005_method_3_code 31 = .ok (.return_, 1) := by decide +kernel
theorem ef_ens (m : MethodId) (xa : Addr) (xm : Int32) : entryFrame m #[(.ref xa), (.int xm)] 4 = mkF m 0 #[.val (.ref xa), .val (.int xm), .unset, .unset] [] := by first | (simp [entryFrame, mkF, argsToLocals, Value.category]; done) | rfl
def Q_ens (Z : State) (xa : Addr) (xm : Int32) (bb : Addr) (xs : List Int32) (h0 : Heap) (n0 : Nat) (v : Option Value) (h : Heap) (L : List Loc) : Prop := v = none ∧ Fr n0 L ∧ h = h0
set_option maxRecDepth 65536 in
set_option maxHeartbeats 40000000 in
theorem rm_ens (l : Launch) (Z : State) (a0 : Array Value) (hw : ∀ d ∈ tables_1, d.before a0 Z = true) (ws : List Jvm.Cond) (xa : Addr) (xm : Int32) (bb : Addr) (xs : List Int32) (h0 : Heap) (n0 : Nat) (Z0 : n0 ≤ h0.size) (Fb : Fld Z h0 xa "java/io/ByteArrayOutputStream" "buf" "[B" (.ref bb)) (Ab : BA Z h0 bb xs) (hle : ¬ (0 : Int32) < xm - Int32.ofNat xs.length) :
    MetFree l (⟨"java/io/ByteArrayOutputStream", "ensureCapacity", "(I)V"⟩ : MethodName) (head1 (Jvm.Cond.code (⟨"java/io/ByteArrayOutputStream", "ensureCapacity", "(I)V"⟩ : MethodName) jdk_2005_method_3_code 4 none :: ws) ({ frames := 0, cells := 0, slots := 0, locals := 0 } : Room)) (fun a U => a = #[(.ref xa), (.int xm)] ∧ Z.Warmed39 U.vm ∧ U.heap = h0) (fun _ _ _ _ _ => True) (fun _ U o U' => ∃ v L, o = .returned v ∧ Q_ens Z xa xm bb xs h0 n0 v U'.heap L ∧ FrameEnd U o U' L ({ frames := 0, cells := 0, slots := 0, locals := 0 } : Room).cells ({ frames := 0, cells := 0, slots := 0, locals := 0 } : Room).slots) := by
  refine MetFree.of_bodySF (plainFor_of_name pn_1) hisR ?_
  intro p e s m args below meth c s₁ Bd hml0 hP hK
  obtain ⟨rfl, hZ, hh⟩ := hP
  have hx := Bd.exec
  have hby := Bd.bytes
  have hml : c.maxLocals = 4 := hml0
  have hown : s.vm.findClass "java/io/ByteArrayOutputStream" = some m.cls := findClass_of_methodNamed Bd.named
  have hnm := (name_of_methodNamed Bd.named Bd.method).1
  have X0 : Stand p l e ({ frames := 0, cells := 0, slots := 0, locals := 0 } : Room) s m #[(.ref xa), (.int xm)] below meth c s₁ [] 0 0 := Stand.of_body Bd
  have e0 : s₁.heap = h0 := by rw [← hh, Bd.state]; rfl
  have N0 := Fr.nil n0
  have pre0 : ∀ t, Steps p.tables e below (s₁.setTop (mkF m 0 #[.val (.ref xa), .val (.int xm), .unset, .unset] [])) t → Steps p.tables e below (s₁.setTop (entryFrame m #[(.ref xa), (.int xm)] 4)) t := fun t k => castTop (ef_ens m xa xm) k
  obtain ⟨T1, X1, e1, st1⟩ := getF X0 hx hZ hown (host := "") (Or.inl (hw _ (List.mem_of_getElem? (i := 26) rfl))) Via.refl e0 Fb (g := (mkF m 1 #[.val (.ref xa), .val (.int xm), .unset, .unset] [(.ref xa)])) rfl rfl (hb hby d_jdk_2005_method_3_1)
  obtain ⟨cl2, Ar2, ln2⟩ := Ab.ln
  obtain ⟨fs, hr, hrun, hended, hW, hsame⟩ := X1.leave (v := none) (fun _ => rfl)
  refine ⟨_, _, pre0 _ ?_, hrun, hended, _, _, rfl, ?_, ⟨_, rfl⟩, hW, hsame.mono (by decide) (by decide)⟩
  · show Steps p.tables e below (s₁.setTop (mkF m 0 #[.val (.ref xa), .val (.int xm), .unset, .unset] [])) _
    refine XS.aloadN X0.here hx rfl (hb hby d_jdk_2005_method_3_0) rfl rfl ?_
    show Steps p.tables e below (s₁.setTop (mkF m 1 #[.val (.ref xa), .val (.int xm), .unset, .unset] [(.ref xa)])) _
    refine st1 _ ?_
    show Steps p.tables e below (T1.setTop (mkF m 4 #[.val (.ref xa), .val (.int xm), .unset, .unset] [(.ref bb)])) _
    refine X1.arraylength hx (by rw [e1]; exact Ar2.1) (State.isArrayOf_alike hZ.alike Ar2.2.1) (g := (mkF m 4 #[.val (.ref xa), .val (.int xm), .unset, .unset] [(.ref bb)])) rfl rfl (hb hby d_jdk_2005_method_3_4) _ ?_
    rw [ln2]
    show Steps p.tables e below (T1.setTop (mkF m 5 #[.val (.ref xa), .val (.int xm), .unset, .unset] [(.int (Int32.ofNat xs.length))])) _
    refine XS.istoreN X1.here hx rfl (hb hby d_jdk_2005_method_3_5) rfl (l' := #[.val (.ref xa), .val (.int xm), .val (.int (Int32.ofNat xs.length)), .unset]) rfl ?_
    show Steps p.tables e below (T1.setTop (mkF m 6 #[.val (.ref xa), .val (.int xm), .val (.int (Int32.ofNat xs.length)), .unset] [])) _
    refine XS.iloadN X1.here hx rfl (hb hby d_jdk_2005_method_3_6) rfl ?_
    show Steps p.tables e below (T1.setTop (mkF m 7 #[.val (.ref xa), .val (.int xm), .val (.int (Int32.ofNat xs.length)), .unset] [(.int xm)])) _
    refine XS.iloadN X1.here hx rfl (hb hby d_jdk_2005_method_3_7) rfl ?_
    show Steps p.tables e below (T1.setTop (mkF m 8 #[.val (.ref xa), .val (.int xm), .val (.int (Int32.ofNat xs.length)), .unset] [(.int (Int32.ofNat xs.length)), (.int xm)])) _
    refine XS.isub X1.here hx rfl (hb hby d_jdk_2005_method_3_8) rfl ?_
    show Steps p.tables e below (T1.setTop (mkF m 9 #[.val (.ref xa), .val (.int xm), .val (.int (Int32.ofNat xs.length)), .unset] [(.int (xm - (Int32.ofNat xs.length)))])) _
    refine XS.istoreN X1.here hx rfl (hb hby d_jdk_2005_method_3_9) rfl (l' := #[.val (.ref xa), .val (.int xm), .val (.int (Int32.ofNat xs.length)), .val (.int (xm - (Int32.ofNat xs.length)))]) rfl ?_
    show Steps p.tables e below (T1.setTop (mkF m 10 #[.val (.ref xa), .val (.int xm), .val (.int (Int32.ofNat xs.length)), .val (.int (xm - (Int32.ofNat xs.length)))] [])) _
    refine XS.iloadN X1.here hx rfl (hb hby d_jdk_2005_method_3_10) rfl ?_
    show Steps p.tables e below (T1.setTop (mkF m 11 #[.val (.ref xa), .val (.int xm), .val (.int (Int32.ofNat xs.length)), .val (.int (xm - (Int32.ofNat xs.length)))] [(.int (xm - (Int32.ofNat xs.length)))])) _
    refine XS.ifYes X1.here hx rfl (pc0 := 11) (pc' := 31) rfl (hb hby d_jdk_2005_method_3_11) rfl ((if0 _ _).trans (flt hle).2.2.2) (by decide) (by decide) ?_
    show Steps p.tables e below (T1.setTop (mkF m 31 #[.val (.ref xa), .val (.int xm), .val (.int (Int32.ofNat xs.length)), .val (.int (xm - (Int32.ofNat xs.length)))] [])) _
    exact X1.returnOut hx Bd.returns (hb hby d_jdk_2005_method_3_31) hr
  · show Q_ens Z xa xm bb xs h0 n0 _ T1.heap _
    rw [e1]
    exact ⟨rfl, N0, rfl⟩
theorem d_jdk_65_method_121_0 : decode jdk_65_method_121_code 0 = .ok (.iload_n 1, 1) := by decide +kernel
theorem d_jdk_65_method_121_1 : decode jdk_65_method_121_code 1 = .ok (.aload_n 0, 1) := by decide +kernel
theorem d_jdk_65_method_121_2 : decode jdk_65_method_121_code 2 = .ok (.arraylength, 1) := by decide +kernel
theorem d_jdk_65_method_121_3 : decode jdk_65_method_121_code 3 = .ok (.if_icmp .ne 11, 3) := by decide +kernel
theorem d_jdk_65_method_121_6 : decode jdk_65_method_121_code 6 = .ok (.aload_n 0, 1) := by decide +kernel
theorem d_jdk_65_method_121_7 : decode jdk_65_method_121_code 7 = .ok (.invokevirtual 310, 3) := by decide +kernel
theorem d_jdk_65_method_121_10 : decode jdk_65_method_121_code 10 = .ok (.checkcast 311, 3) := by decide +kernel
theorem d_jdk_65_method_121_13 : decode jdk_65_method_121_code 13 = .ok (.areturn, 1) := by decide +kernel
theorem d_jdk_65_method_121_14 : decode jdk_65_method_121_code 14 = .ok (.iload_n 1, 1) := by decide +kernel
theorem d_jdk_65_method_121_15 : decode jdk_65_method_121_code 15 = .ok (.newarray .byte, 2) := by decide +kernel
theorem d_jdk_65_method_121_17 : decode jdk_65_method_121_code 17 = .ok (.astore_n 2, 1) := by decide +kernel
theorem d_jdk_65_method_121_18 : decode jdk_65_method_121_code 18 = .ok (.aload_n 0, 1) := by decide +kernel
theorem d_jdk_65_method_121_19 : decode jdk_65_method_121_code 19 = .ok (.iconst 0, 1) := by decide +kernel
theorem d_jdk_65_method_121_20 : decode jdk_65_method_121_code 20 = .ok (.aload_n 2, 1) := by decide +kernel
theorem d_jdk_65_method_121_21 : decode jdk_65_method_121_code 21 = .ok (.iconst 0, 1) := by decide +kernel
theorem d_jdk_65_method_121_22 : decode jdk_65_method_121_code 22 = .ok (.aload_n 0, 1) := by decide +kernel
theorem d_jdk_65_method_121_23 : decode jdk_65_method_121_code 23 = .ok (.arraylength, 1) := by decide +kernel
theorem d_jdk_65_method_121_24 : decode jdk_65_method_121_code 24 = .ok (.iload_n 1, 1) := by decide +kernel
theorem d_jdk_65_method_121_25 : decode jdk_65_method_121_code 25 = .ok (.invokestatic 304, 3) := by decide +kernel
theorem d_jdk_65_method_121_28 : decode jdk_65_method_121_code 28 = .ok (.invokestatic 150, 3) := by decide +kernel
theorem d_jdk_65_method_121_31 : decode jdk_65_method_121_code 31 = .ok (.aload_n 2, 1) := by decide +kernel
theorem d_jdk_65_method_121_32 : decode jdk_65_method_121_code 32 = .ok (.areturn, 1) := by decide +kernel
theorem pn_5 : plainName "java/util/Arrays" = true := by first | (simp [plainName, overriddenIn]; done) | decide +kernel
theorem pd_3 : parseMethodDescriptor "(II)I" = some ⟨[.int, .int], some .int⟩ := by decide +kernel
theorem ef_cpa (m : MethodId) (xd : Addr) (xn : Int32) : entryFrame m #[(.ref xd), (.int xn)] 3 = mkF m 0 #[.val (.ref xd), .val (.int xn), .unset] [] := by first | (simp [entryFrame, mkF, argsToLocals, Value.category]; done) | rfl
def Q_cpa (Z : State) (xd : Addr) (xn : Int32) (xs : List Int32) (h0 : Heap) (n0 : Nat) (v : Option Value) (h : Heap) (L : List Loc) : Prop := v = some (.ref h0.size) ∧ Fr n0 L ∧ Keep h0 h [] ∧ BA Z h h0.size (cpB xs xn)
set_option maxRecDepth 65536 in
set_option maxHeartbeats 40000000 in
theorem rm_cpa (l : Launch) (Z : State) (a0 : Array Value) (hw : ∀ d ∈ tables_1, d.before a0 Z = true) (ws : List Jvm.Cond) (xd : Addr) (xn : Int32) (xs : List Int32) (h0 : Heap) (n0 : Nat) (Z0 : n0 ≤ h0.size) (Ad : BA Z h0 xd xs) (hn0 : ¬ xn < 0) (hcap : xn.toNatClampNeg ≤ 128) :
    MetFree l (⟨"java/util/Arrays", "copyOf", "([BI)[B"⟩ : MethodName) (head1 (Jvm.Cond.code (⟨"java/util/Arrays", "copyOf", "([BI)[B"⟩ : MethodName) jdk_65_method_121_code 3 (some (.array .byte)) :: ws) ({ frames := 1, cells := 1, slots := 128, locals := 62 } : Room)) (fun a U => a = #[(.ref xd), (.int xn)] ∧ Z.Warmed39 U.vm ∧ U.heap = h0) (fun _ _ _ _ _ => True) (fun _ U o U' => ∃ v L, o = .returned v ∧ Q_cpa Z xd xn xs h0 n0 v U'.heap L ∧ FrameEnd U o U' L ({ frames := 1, cells := 1, slots := 128, locals := 62 } : Room).cells ({ frames := 1, cells := 1, slots := 128, locals := 62 } : Room).slots) := by
  refine MetFree.of_bodySF (plainFor_of_name pn_5) hisR ?_
  intro p e s m args below meth c s₁ Bd hml0 hP hK
  obtain ⟨rfl, hZ, hh⟩ := hP
  have hx := Bd.exec
  have hby := Bd.bytes
  have hml : c.maxLocals = 3 := hml0
  have hown : s.vm.findClass "java/util/Arrays" = some m.cls := findClass_of_methodNamed Bd.named
  have hnm := (name_of_methodNamed Bd.named Bd.method).1
  have X0 : Stand p l e ({ frames := 1, cells := 1, slots := 128, locals := 62 } : Room) s m #[(.ref xd), (.int xn)] below meth c s₁ [] 0 0 := Stand.of_body Bd
  have e0 : s₁.heap = h0 := by rw [← hh, Bd.state]; rfl
  have N0 := Fr.nil n0
  have pre0 : ∀ t, Steps p.tables e below (s₁.setTop (mkF m 0 #[.val (.ref xd), .val (.int xn), .unset] [])) t → Steps p.tables e below (s₁.setTop (entryFrame m #[(.ref xd), (.int xn)] 3)) t := fun t k => castTop (ef_cpa m xd xn) k
  have ll := Ad.1
  have hmn := own_minN ll hn0
  by_cases hc3 : xn = (Int32.ofNat xs.length)
  · obtain ⟨cl1, Ar1, ln1⟩ := Ad.ln
    obtain ⟨lC2, xC2, kC2, vC2⟩ := id Ad
    obtain ⟨T2, h2, X2, e2, E2, A2, B2, st2⟩ := cloneH X0 hx hZ hown (hw _ (List.mem_of_getElem? (i := 97) rfl)) (hw _ (List.mem_of_getElem? (i := 98) rfl)) (hw _ (List.mem_of_getElem? (i := 102) rfl)) (hw _ (List.mem_of_getElem? (i := 100) rfl)) (hw _ (List.mem_of_getElem? (i := 101) rfl)) (hw _ (List.mem_of_getElem? (i := 103) rfl)) e0 vC2.arh xC2 (g := (mkF m 7 #[.val (.ref xd), .val (.int xn), .unset] [(.ref xd)])) rfl (by rw [hml]; rfl) rfl (hb hby d_jdk_65_method_121_7) (by decide) (W := 0) (cap := 128) (by show 2 * 0 + _ ≤ _; exact Nat.le_of_eq rfl) (by decide) (by rw [← hc3]; exact hcap) (by decide) (by decide)
    obtain ⟨b2, g2⟩ : ∃ z, z = h0.size := ⟨_, rfl⟩
    rw [← g2] at A2 B2 st2
    have A2_xd := Ad.ext E2
    have V_b2 : BA Z h2 b2 xs := ⟨lC2, B2, kC2, A2⟩
    obtain ⟨T3, X3, e3, st3⟩ := castY X2 hx hZ hown (hw _ (List.mem_of_getElem? (i := 104) rfl)) e2 (Ins.of_exa V_b2.2.1 (hw _ (List.mem_of_getElem? (i := 105) rfl))) (g := (mkF m 10 #[.val (.ref xd), .val (.int xn), .unset] [(.ref b2)])) rfl rfl (hb hby d_jdk_65_method_121_10)
    obtain ⟨fs, hr, hrun, hended, hW, hsame⟩ := X3.leave (v := some (.ref b2)) (fun h => by rw [Bd.returns] at h; cases h)
    refine ⟨_, _, pre0 _ ?_, hrun, hended, _, _, rfl, ?_, ⟨_, rfl⟩, hW, hsame.mono (by decide) (by decide)⟩
    · show Steps p.tables e below (s₁.setTop (mkF m 0 #[.val (.ref xd), .val (.int xn), .unset] [])) _
      refine XS.iloadN X0.here hx rfl (hb hby d_jdk_65_method_121_0) rfl ?_
      show Steps p.tables e below (s₁.setTop (mkF m 1 #[.val (.ref xd), .val (.int xn), .unset] [(.int xn)])) _
      refine XS.aloadN X0.here hx rfl (hb hby d_jdk_65_method_121_1) rfl rfl ?_
      show Steps p.tables e below (s₁.setTop (mkF m 2 #[.val (.ref xd), .val (.int xn), .unset] [(.ref xd), (.int xn)])) _
      refine X0.arraylength hx (by rw [e0]; exact Ar1.1) (State.isArrayOf_alike hZ.alike Ar1.2.1) (g := (mkF m 2 #[.val (.ref xd), .val (.int xn), .unset] [(.ref xd), (.int xn)])) rfl rfl (hb hby d_jdk_65_method_121_2) _ ?_
      rw [ln1]
      show Steps p.tables e below (s₁.setTop (mkF m 3 #[.val (.ref xd), .val (.int xn), .unset] [(.int (Int32.ofNat xs.length)), (.int xn)])) _
      refine XS.icmpNo X0.here hx rfl (hb hby d_jdk_65_method_121_3) rfl (teq hc3).2 ?_
      show Steps p.tables e below (s₁.setTop (mkF m 6 #[.val (.ref xd), .val (.int xn), .unset] [])) _
      refine XS.aloadN X0.here hx rfl (hb hby d_jdk_65_method_121_6) rfl rfl ?_
      show Steps p.tables e below (s₁.setTop (mkF m 7 #[.val (.ref xd), .val (.int xn), .unset] [(.ref xd)])) _
      refine st2 _ ?_
      show Steps p.tables e below (T2.setTop (mkF m 10 #[.val (.ref xd), .val (.int xn), .unset] [(.ref b2)])) _
      refine st3 _ ?_
      show Steps p.tables e below (T3.setTop (mkF m 13 #[.val (.ref xd), .val (.int xn), .unset] [(.ref b2)])) _
      jvm_step X3.here [X3.here.top, hx, (hb hby d_jdk_65_method_121_13), X3.method', Bd.returns, Value.isRef, FieldType.isReference]
      first | (intro acts; rw [hr _ acts rfl rfl rfl]) | rw [hr _ _ rfl rfl rfl]
      exact Steps.refl _
    · show Q_cpa Z xd xn xs h0 n0 _ T3.heap _
      rw [e3]
      exact ⟨(by rw [g2]), N0, (Keep.refl h0 []).ext E2, (by rw [← g2, cpB_self ll hc3]; exact V_b2)⟩
  · obtain ⟨cl4, Ar4, ln4⟩ := Ad.ln
    obtain ⟨T5, h5, k5, X5, e5, E5, A5, B5, st5⟩ := newPE X0 hx hZ (hw _ (List.mem_of_getElem? (i := 1) rfl)) e0 (g := (mkF m 15 #[.val (.ref xd), .val (.int xn), .unset] [(.int xn)])) rfl (hb hby d_jdk_65_method_121_15) rfl hn0 (cap := 128) hcap (by decide) (by decide) (by decide) (ad := "[B") (by decide)
    obtain ⟨b5, g5⟩ : ∃ z, z = h0.size := ⟨_, rfl⟩
    rw [← g5] at A5 B5 st5
    have g_b5 : n0 ≤ b5 := Nat.le_trans Z0 (Nat.le_of_eq g5.symm)
    have ne_xd_b5 : xd ≠ b5 := Nat.ne_of_lt (Nat.lt_of_lt_of_le Ad.lt (Nat.le_of_eq g5.symm))
    have A5_xd := Ad.ext E5
    have V_b5 : BA Z h5 b5 (List.replicate xn.toNatClampNeg 0) := BA.new xn.toNatClampNeg A5 B5 (Nat.le_trans hcap (by decide)) (own_back hn0)
    obtain ⟨cl6, Ar6, ln6⟩ := A5_xd.ln
    obtain ⟨_, _, ⟨T7, L7, k7, n7⟩, -, X7, ⟨Lc7, hQ7, l7, y7, z7⟩, st7⟩ := Jvm.LawKit.callS X5 hx (y := (⟨"java/lang/Math", "min", "(II)I"⟩ : MethodName)) hown (mvT hZ (hw _ (List.mem_of_getElem? (i := 78) rfl))) (mvT hZ (hw _ (List.mem_of_getElem? (i := 79) rfl))) (mvT hZ (hw _ (List.mem_of_getElem? (i := 80) rfl))) (mvT hZ (hw _ (List.mem_of_getElem? (i := 81) rfl))) (by decide) (backOf (W := 4) (rm_min l Z a0 hw [] (Int32.ofNat xs.length) xn h5 n0 (Nat.le_trans Z0 E5.1) ) hZ (hw _ (List.mem_of_getElem? (i := 81) rfl)) (hw _ (List.mem_of_getElem? (i := 80) rfl)) (by decide) (by decide)) (g := (mkF m 25 #[.val (.ref xd), .val (.int xn), .val (.ref b5)] [(.int xn), (.int (Int32.ofNat xs.length)), (.int (0 : Int32)), (.ref b5), (.int (0 : Int32)), (.ref xd)])) rfl (by rw [hml]; rfl) (argsL := [(.int (Int32.ofNat xs.length)), (.int xn)]) (rest := [(.int (0 : Int32)), (.ref b5), (.int (0 : Int32)), (.ref xd)]) (lenOf pd_3 rfl) rfl (by show 2 * 0 + _ ≤ _; exact Nat.le_of_eq rfl) (hb hby d_jdk_65_method_121_25) (fun _ _ => ⟨rfl, e5, (by decide : 1 + 0 ≤ _), (by decide : 128 + 0 ≤ _)⟩)
    dsimp only [Pt.U, Pt.locs, Pt.cells, Pt.slots] at X7 l7 y7 z7 st7 hQ7
    subst l7 y7 z7
    obtain ⟨rfl, N7q, e7⟩ := hQ7
    have N7 := Fr.app N0 N7q
    obtain ⟨lS8, xS8, kS8, vS8⟩ := id A5_xd
    obtain ⟨lB8, xB8, kB8, vB8⟩ := id V_b5
    obtain ⟨T8, h8, Ln8, X8, e8, N8, K8, B8, st8⟩ := cpA X7 hx hZ hown (hw _ (List.mem_of_getElem? (i := 82) rfl)) (hw _ (List.mem_of_getElem? (i := 52) rfl)) (hw _ (List.mem_of_getElem? (i := 50) rfl)) (hw _ (List.mem_of_getElem? (i := 51) rfl)) e7 (us := vI (xs.take xn.toNatClampNeg)) vS8 vB8 (Or.inl ⟨rfl, rfl⟩) (by decide) (by decide) hmn.2 (by rw [hmn.1, own_clamp ll]; show 0 + _ ≤ _; omega) (by rw [hmn.1, own_clamp lB8, List.length_replicate]; show 0 + _ ≤ _; omega) (own_usB ll hn0) (by rw [hmn.1]; show 0 + _ ≤ (List.map _ _).length; rw [List.length_map, List.length_replicate]; omega) N7 g_b5 (g := (mkF m 28 #[.val (.ref xd), .val (.int xn), .val (.ref b5)] [(.int (minF (Int32.ofNat xs.length) xn)), (.int (0 : Int32)), (.ref b5), (.int (0 : Int32)), (.ref xd)])) rfl (by rw [hml]; rfl) rfl (hb hby d_jdk_65_method_121_28) (by decide) (W := 0) (by show 2 * 0 + _ ≤ _; exact Nat.le_of_eq rfl) (by decide)
    have A8_xd := A5_xd.keep K8 (ninS ne_xd_b5 nin0)
    have AC8 : BA Z h8 b5 (cpB xs xn) := own_cpB hn0 (Nat.le_trans hcap (by decide)) ll (xB8.keep K8) B8
    obtain ⟨fs, hr, hrun, hended, hW, hsame⟩ := X8.leave (v := some (.ref b5)) (fun h => by rw [Bd.returns] at h; cases h)
    refine ⟨_, _, pre0 _ ?_, hrun, hended, _, _, rfl, ?_, ⟨_, rfl⟩, hW, hsame.mono (by decide) (by decide)⟩
    · show Steps p.tables e below (s₁.setTop (mkF m 0 #[.val (.ref xd), .val (.int xn), .unset] [])) _
      refine XS.iloadN X0.here hx rfl (hb hby d_jdk_65_method_121_0) rfl ?_
      show Steps p.tables e below (s₁.setTop (mkF m 1 #[.val (.ref xd), .val (.int xn), .unset] [(.int xn)])) _
      refine XS.aloadN X0.here hx rfl (hb hby d_jdk_65_method_121_1) rfl rfl ?_
      show Steps p.tables e below (s₁.setTop (mkF m 2 #[.val (.ref xd), .val (.int xn), .unset] [(.ref xd), (.int xn)])) _
      refine X0.arraylength hx (by rw [e0]; exact Ar4.1) (State.isArrayOf_alike hZ.alike Ar4.2.1) (g := (mkF m 2 #[.val (.ref xd), .val (.int xn), .unset] [(.ref xd), (.int xn)])) rfl rfl (hb hby d_jdk_65_method_121_2) _ ?_
      rw [ln4]
      show Steps p.tables e below (s₁.setTop (mkF m 3 #[.val (.ref xd), .val (.int xn), .unset] [(.int (Int32.ofNat xs.length)), (.int xn)])) _
      refine XS.icmpYes X0.here hx rfl (pc0 := 3) (pc' := 14) rfl (hb hby d_jdk_65_method_121_3) rfl (feq hc3).2 (by decide) (by decide) ?_
      show Steps p.tables e below (s₁.setTop (mkF m 14 #[.val (.ref xd), .val (.int xn), .unset] [])) _
      refine XS.iloadN X0.here hx rfl (hb hby d_jdk_65_method_121_14) rfl ?_
      show Steps p.tables e below (s₁.setTop (mkF m 15 #[.val (.ref xd), .val (.int xn), .unset] [(.int xn)])) _
      refine st5 _ ?_
      show Steps p.tables e below (T5.setTop (mkF m 17 #[.val (.ref xd), .val (.int xn), .unset] [(.ref b5)])) _
      refine XS.astoreN X5.here hx rfl (hb hby d_jdk_65_method_121_17) rfl rfl (l' := #[.val (.ref xd), .val (.int xn), .val (.ref b5)]) rfl ?_
      show Steps p.tables e below (T5.setTop (mkF m 18 #[.val (.ref xd), .val (.int xn), .val (.ref b5)] [])) _
      refine XS.aloadN X5.here hx rfl (hb hby d_jdk_65_method_121_18) rfl rfl ?_
      show Steps p.tables e below (T5.setTop (mkF m 19 #[.val (.ref xd), .val (.int xn), .val (.ref b5)] [(.ref xd)])) _
      refine XS.iconst X5.here hx rfl (hb hby d_jdk_65_method_121_19) ?_
      show Steps p.tables e below (T5.setTop (mkF m 20 #[.val (.ref xd), .val (.int xn), .val (.ref b5)] [(.int (0 : Int32)), (.ref xd)])) _
      refine XS.aloadN X5.here hx rfl (hb hby d_jdk_65_method_121_20) rfl rfl ?_
      show Steps p.tables e below (T5.setTop (mkF m 21 #[.val (.ref xd), .val (.int xn), .val (.ref b5)] [(.ref b5), (.int (0 : Int32)), (.ref xd)])) _
      refine XS.iconst X5.here hx rfl (hb hby d_jdk_65_method_121_21) ?_
      show Steps p.tables e below (T5.setTop (mkF m 22 #[.val (.ref xd), .val (.int xn), .val (.ref b5)] [(.int (0 : Int32)), (.ref b5), (.int (0 : Int32)), (.ref xd)])) _
      refine XS.aloadN X5.here hx rfl (hb hby d_jdk_65_method_121_22) rfl rfl ?_
      show Steps p.tables e below (T5.setTop (mkF m 23 #[.val (.ref xd), .val (.int xn), .val (.ref b5)] [(.ref xd), (.int (0 : Int32)), (.ref b5), (.int (0 : Int32)), (.ref xd)])) _
      refine X5.arraylength hx (by rw [e5]; exact Ar6.1) (State.isArrayOf_alike hZ.alike Ar6.2.1) (g := (mkF m 23 #[.val (.ref xd), .val (.int xn), .val (.ref b5)] [(.ref xd), (.int (0 : Int32)), (.ref b5), (.int (0 : Int32)), (.ref xd)])) rfl rfl (hb hby d_jdk_65_method_121_23) _ ?_
      rw [ln6]
      show Steps p.tables e below (T5.setTop (mkF m 24 #[.val (.ref xd), .val (.int xn), .val (.ref b5)] [(.int (Int32.ofNat xs.length)), (.int (0 : Int32)), (.ref b5), (.int (0 : Int32)), (.ref xd)])) _
      refine XS.iloadN X5.here hx rfl (hb hby d_jdk_65_method_121_24) rfl ?_
      show Steps p.tables e below (T5.setTop (mkF m 25 #[.val (.ref xd), .val (.int xn), .val (.ref b5)] [(.int xn), (.int (Int32.ofNat xs.length)), (.int (0 : Int32)), (.ref b5), (.int (0 : Int32)), (.ref xd)])) _
      refine st7 _ ?_
      show Steps p.tables e below (T7.setTop (mkF m 28 #[.val (.ref xd), .val (.int xn), .val (.ref b5)] [(.int (minF (Int32.ofNat xs.length) xn)), (.int (0 : Int32)), (.ref b5), (.int (0 : Int32)), (.ref xd)])) _
      refine st8 _ ?_
      show Steps p.tables e below (T8.setTop (mkF m 31 #[.val (.ref xd), .val (.int xn), .val (.ref b5)] [])) _
      refine XS.aloadN X8.here hx rfl (hb hby d_jdk_65_method_121_31) rfl rfl ?_
      show Steps p.tables e below (T8.setTop (mkF m 32 #[.val (.ref xd), .val (.int xn), .val (.ref b5)] [(.ref b5)])) _
      jvm_step X8.here [X8.here.top, hx, (hb hby d_jdk_65_method_121_32), X8.method', Bd.returns, Value.isRef, FieldType.isReference]
      first | (intro acts; rw [hr _ acts rfl rfl rfl]) | rw [hr _ _ rfl rfl rfl]
      exact Steps.refl _
    · show Q_cpa Z xd xn xs h0 n0 _ T8.heap _
      rw [e8]
      exact ⟨(by rw [g5]), N8, ((Keep.refl h0 []).ext E5).trans K8 (allS (Or.inr (Nat.le_of_eq g5.symm)) all0), (by rw [← g5]; exact AC8)⟩
theorem ef_cpb (m : MethodId) (xd : Addr) (xn : Int32) : entryFrame m #[(.ref xd), (.int xn)] 3 = mkF m 0 #[.val (.ref xd), .val (.int xn), .unset] [] := by first | (simp [entryFrame, mkF, argsToLocals, Value.category]; done) | rfl
def Q_cpb (Z : State) (xd : Addr) (xn : Int32) (xs : List Int32) (h0 : Heap) (n0 : Nat) (v : Option Value) (h : Heap) (L : List Loc) : Prop := v = some (.ref h0.size) ∧ Fr n0 L ∧ Keep h0 h [] ∧ BA Z h h0.size (cpB xs xn)
set_option maxRecDepth 65536 in
set_option maxHeartbeats 40000000 in
theorem rm_cpb (l : Launch) (Z : State) (a0 : Array Value) (hw : ∀ d ∈ tables_1, d.before a0 Z = true) (ws : List Jvm.Cond) (xd : Addr) (xn : Int32) (xs : List Int32) (h0 : Heap) (n0 : Nat) (Z0 : n0 ≤ h0.size) (Ad : BA Z h0 xd xs) (hn0 : ¬ xn < 0) (hcap : xn.toNatClampNeg ≤ 36) :
    MetFree l (⟨"java/util/Arrays", "copyOf", "([BI)[B"⟩ : MethodName) (head1 (Jvm.Cond.code (⟨"java/util/Arrays", "copyOf", "([BI)[B"⟩ : MethodName) jdk_65_method_121_code 3 (some (.array .byte)) :: ws) ({ frames := 1, cells := 1, slots := 36, locals := 62 } : Room)) (fun a U => a = #[(.ref xd), (.int xn)] ∧ Z.Warmed39 U.vm ∧ U.heap = h0) (fun _ _ _ _ _ => True) (fun _ U o U' => ∃ v L, o = .returned v ∧ Q_cpb Z xd xn xs h0 n0 v U'.heap L ∧ FrameEnd U o U' L ({ frames := 1, cells := 1, slots := 36, locals := 62 } : Room).cells ({ frames := 1, cells := 1, slots := 36, locals := 62 } : Room).slots) := by
  refine MetFree.of_bodySF (plainFor_of_name pn_5) hisR ?_
  intro p e s m args below meth c s₁ Bd hml0 hP hK
  obtain ⟨rfl, hZ, hh⟩ := hP
  have hx := Bd.exec
  have hby := Bd.bytes
  have hml : c.maxLocals = 3 := hml0
  have hown : s.vm.findClass "java/util/Arrays" = some m.cls := findClass_of_methodNamed Bd.named
  have hnm := (name_of_methodNamed Bd.named Bd.method).1
  have X0 : Stand p l e ({ frames := 1, cells := 1, slots := 36, locals := 62 } : Room) s m #[(.ref xd), (.int xn)] below meth c s₁ [] 0 0 := Stand.of_body Bd
  have e0 : s₁.heap = h0 := by rw [← hh, Bd.state]; rfl
  have N0 := Fr.nil n0
  have pre0 : ∀ t, Steps p.tables e below (s₁.setTop (mkF m 0 #[.val (.ref xd), .val (.int xn), .unset] [])) t → Steps p.tables e below (s₁.setTop (entryFrame m #[(.ref xd), (.int xn)] 3)) t := fun t k => castTop (ef_cpb m xd xn) k
  have ll := Ad.1
  have hmn := own_minN ll hn0
  by_cases hc3 : xn = (Int32.ofNat xs.length)
  · obtain ⟨cl1, Ar1, ln1⟩ := Ad.ln
    obtain ⟨lC2, xC2, kC2, vC2⟩ := id Ad
    obtain ⟨T2, h2, X2, e2, E2, A2, B2, st2⟩ := cloneH X0 hx hZ hown (hw _ (List.mem_of_getElem? (i := 97) rfl)) (hw _ (List.mem_of_getElem? (i := 98) rfl)) (hw _ (List.mem_of_getElem? (i := 102) rfl)) (hw _ (List.mem_of_getElem? (i := 100) rfl)) (hw _ (List.mem_of_getElem? (i := 101) rfl)) (hw _ (List.mem_of_getElem? (i := 103) rfl)) e0 vC2.arh xC2 (g := (mkF m 7 #[.val (.ref xd), .val (.int xn), .unset] [(.ref xd)])) rfl (by rw [hml]; rfl) rfl (hb hby d_jdk_65_method_121_7) (by decide) (W := 0) (cap := 36) (by show 2 * 0 + _ ≤ _; exact Nat.le_of_eq rfl) (by decide) (by rw [← hc3]; exact hcap) (by decide) (by decide)
    obtain ⟨b2, g2⟩ : ∃ z, z = h0.size := ⟨_, rfl⟩
    rw [← g2] at A2 B2 st2
    have A2_xd := Ad.ext E2
    have V_b2 : BA Z h2 b2 xs := ⟨lC2, B2, kC2, A2⟩
    obtain ⟨T3, X3, e3, st3⟩ := castY X2 hx hZ hown (hw _ (List.mem_of_getElem? (i := 104) rfl)) e2 (Ins.of_exa V_b2.2.1 (hw _ (List.mem_of_getElem? (i := 105) rfl))) (g := (mkF m 10 #[.val (.ref xd), .val (.int xn), .unset] [(.ref b2)])) rfl rfl (hb hby d_jdk_65_method_121_10)
    obtain ⟨fs, hr, hrun, hended, hW, hsame⟩ := X3.leave (v := some (.ref b2)) (fun h => by rw [Bd.returns] at h; cases h)
    refine ⟨_, _, pre0 _ ?_, hrun, hended, _, _, rfl, ?_, ⟨_, rfl⟩, hW, hsame.mono (by decide) (by decide)⟩
    · show Steps p.tables e below (s₁.setTop (mkF m 0 #[.val (.ref xd), .val (.int xn), .unset] [])) _
      refine XS.iloadN X0.here hx rfl (hb hby d_jdk_65_method_121_0) rfl ?_
      show Steps p.tables e below (s₁.setTop (mkF m 1 #[.val (.ref xd), .val (.int xn), .unset] [(.int xn)])) _
      refine XS.aloadN X0.here hx rfl (hb hby d_jdk_65_method_121_1) rfl rfl ?_
      show Steps p.tables e below (s₁.setTop (mkF m 2 #[.val (.ref xd), .val (.int xn), .unset] [(.ref xd), (.int xn)])) _
      refine X0.arraylength hx (by rw [e0]; exact Ar1.1) (State.isArrayOf_alike hZ.alike Ar1.2.1) (g := (mkF m 2 #[.val (.ref xd), .val (.int xn), .unset] [(.ref xd), (.int xn)])) rfl rfl (hb hby d_jdk_65_method_121_2) _ ?_
      rw [ln1]
      show Steps p.tables e below (s₁.setTop (mkF m 3 #[.val (.ref xd), .val (.int xn), .unset] [(.int (Int32.ofNat xs.length)), (.int xn)])) _
      refine XS.icmpNo X0.here hx rfl (hb hby d_jdk_65_method_121_3) rfl (teq hc3).2 ?_
      show Steps p.tables e below (s₁.setTop (mkF m 6 #[.val (.ref xd), .val (.int xn), .unset] [])) _
      refine XS.aloadN X0.here hx rfl (hb hby d_jdk_65_method_121_6) rfl rfl ?_
      show Steps p.tables e below (s₁.setTop (mkF m 7 #[.val (.ref xd), .val (.int xn), .unset] [(.ref xd)])) _
      refine st2 _ ?_
      show Steps p.tables e below (T2.setTop (mkF m 10 #[.val (.ref xd), .val (.int xn), .unset] [(.ref b2)])) _
      refine st3 _ ?_
      show Steps p.tables e below (T3.setTop (mkF m 13 #[.val (.ref xd), .val (.int xn), .unset] [(.ref b2)])) _
      jvm_step X3.here [X3.here.top, hx, (hb hby d_jdk_65_method_121_13), X3.method', Bd.returns, Value.isRef, FieldType.isReference]
      first | (intro acts; rw [hr _ acts rfl rfl rfl]) | rw [hr _ _ rfl rfl rfl]
      exact Steps.refl _
    · show Q_cpb Z xd xn xs h0 n0 _ T3.heap _
      rw [e3]
      exact ⟨(by rw [g2]), N0, (Keep.refl h0 []).ext E2, (by rw [← g2, cpB_self ll hc3]; exact V_b2)⟩
  · obtain ⟨cl4, Ar4, ln4⟩ := Ad.ln
    obtain ⟨T5, h5, k5, X5, e5, E5, A5, B5, st5⟩ := newPE X0 hx hZ (hw _ (List.mem_of_getElem? (i := 1) rfl)) e0 (g := (mkF m 15 #[.val (.ref xd), .val (.int xn), .unset] [(.int xn)])) rfl (hb hby d_jdk_65_method_121_15) rfl hn0 (cap := 36) hcap (by decide) (by decide) (by decide) (ad := "[B") (by decide)
    obtain ⟨b5, g5⟩ : ∃ z, z = h0.size := ⟨_, rfl⟩
    rw [← g5] at A5 B5 st5
    have g_b5 : n0 ≤ b5 := Nat.le_trans Z0 (Nat.le_of_eq g5.symm)
    have ne_xd_b5 : xd ≠ b5 := Nat.ne_of_lt (Nat.lt_of_lt_of_le Ad.lt (Nat.le_of_eq g5.symm))
    have A5_xd := Ad.ext E5
    have V_b5 : BA Z h5 b5 (List.replicate xn.toNatClampNeg 0) := BA.new xn.toNatClampNeg A5 B5 (Nat.le_trans hcap (by decide)) (own_back hn0)
    obtain ⟨cl6, Ar6, ln6⟩ := A5_xd.ln
    obtain ⟨_, _, ⟨T7, L7, k7, n7⟩, -, X7, ⟨Lc7, hQ7, l7, y7, z7⟩, st7⟩ := Jvm.LawKit.callS X5 hx (y := (⟨"java/lang/Math", "min", "(II)I"⟩ : MethodName)) hown (mvT hZ (hw _ (List.mem_of_getElem? (i := 78) rfl))) (mvT hZ (hw _ (List.mem_of_getElem? (i := 79) rfl))) (mvT hZ (hw _ (List.mem_of_getElem? (i := 80) rfl))) (mvT hZ (hw _ (List.mem_of_getElem? (i := 81) rfl))) (by decide) (backOf (W := 4) (rm_min l Z a0 hw [] (Int32.ofNat xs.length) xn h5 n0 (Nat.le_trans Z0 E5.1) ) hZ (hw _ (List.mem_of_getElem? (i := 81) rfl)) (hw _ (List.mem_of_getElem? (i := 80) rfl)) (by decide) (by decide)) (g := (mkF m 25 #[.val (.ref xd), .val (.int xn), .val (.ref b5)] [(.int xn), (.int (Int32.ofNat xs.length)), (.int (0 : Int32)), (.ref b5), (.int (0 : Int32)), (.ref xd)])) rfl (by rw [hml]; rfl) (argsL := [(.int (Int32.ofNat xs.length)), (.int xn)]) (rest := [(.int (0 : Int32)), (.ref b5), (.int (0 : Int32)), (.ref xd)]) (lenOf pd_3 rfl) rfl (by show 2 * 0 + _ ≤ _; exact Nat.le_of_eq rfl) (hb hby d_jdk_65_method_121_25) (fun _ _ => ⟨rfl, e5, (by decide : 1 + 0 ≤ _), (by decide : 36 + 0 ≤ _)⟩)
    dsimp only [Pt.U, Pt.locs, Pt.cells, Pt.slots] at X7 l7 y7 z7 st7 hQ7
    subst l7 y7 z7
    obtain ⟨rfl, N7q, e7⟩ := hQ7
    have N7 := Fr.app N0 N7q
    obtain ⟨lS8, xS8, kS8, vS8⟩ := id A5_xd
    obtain ⟨lB8, xB8, kB8, vB8⟩ := id V_b5
    obtain ⟨T8, h8, Ln8, X8, e8, N8, K8, B8, st8⟩ := cpA X7 hx hZ hown (hw _ (List.mem_of_getElem? (i := 82) rfl)) (hw _ (List.mem_of_getElem? (i := 52) rfl)) (hw _ (List.mem_of_getElem? (i := 50) rfl)) (hw _ (List.mem_of_getElem? (i := 51) rfl)) e7 (us := vI (xs.take xn.toNatClampNeg)) vS8 vB8 (Or.inl ⟨rfl, rfl⟩) (by decide) (by decide) hmn.2 (by rw [hmn.1, own_clamp ll]; show 0 + _ ≤ _; omega) (by rw [hmn.1, own_clamp lB8, List.length_replicate]; show 0 + _ ≤ _; omega) (own_usB ll hn0) (by rw [hmn.1]; show 0 + _ ≤ (List.map _ _).length; rw [List.length_map, List.length_replicate]; omega) N7 g_b5 (g := (mkF m 28 #[.val (.ref xd), .val (.int xn), .val (.ref b5)] [(.int (minF (Int32.ofNat xs.length) xn)), (.int (0 : Int32)), (.ref b5), (.int (0 : Int32)), (.ref xd)])) rfl (by rw [hml]; rfl) rfl (hb hby d_jdk_65_method_121_28) (by decide) (W := 0) (by show 2 * 0 + _ ≤ _; exact Nat.le_of_eq rfl) (by decide)
    have A8_xd := A5_xd.keep K8 (ninS ne_xd_b5 nin0)
    have AC8 : BA Z h8 b5 (cpB xs xn) := own_cpB hn0 (Nat.le_trans hcap (by decide)) ll (xB8.keep K8) B8
    obtain ⟨fs, hr, hrun, hended, hW, hsame⟩ := X8.leave (v := some (.ref b5)) (fun h => by rw [Bd.returns] at h; cases h)
    refine ⟨_, _, pre0 _ ?_, hrun, hended, _, _, rfl, ?_, ⟨_, rfl⟩, hW, hsame.mono (by decide) (by decide)⟩
    · show Steps p.tables e below (s₁.setTop (mkF m 0 #[.val (.ref xd), .val (.int xn), .unset] [])) _
      refine XS.iloadN X0.here hx rfl (hb hby d_jdk_65_method_121_0) rfl ?_
      show Steps p.tables e below (s₁.setTop (mkF m 1 #[.val (.ref xd), .val (.int xn), .unset] [(.int xn)])) _
      refine XS.aloadN X0.here hx rfl (hb hby d_jdk_65_method_121_1) rfl rfl ?_
      show Steps p.tables e below (s₁.setTop (mkF m 2 #[.val (.ref xd), .val (.int xn), .unset] [(.ref xd), (.int xn)])) _
      refine X0.arraylength hx (by rw [e0]; exact Ar4.1) (State.isArrayOf_alike hZ.alike Ar4.2.1) (g := (mkF m 2 #[.val (.ref xd), .val (.int xn), .unset] [(.ref xd), (.int xn)])) rfl rfl (hb hby d_jdk_65_method_121_2) _ ?_
      rw [ln4]
      show Steps p.tables e below (s₁.setTop (mkF m 3 #[.val (.ref xd), .val (.int xn), .unset] [(.int (Int32.ofNat xs.length)), (.int xn)])) _
      refine XS.icmpYes X0.here hx rfl (pc0 := 3) (pc' := 14) rfl (hb hby d_jdk_65_method_121_3) rfl (feq hc3).2 (by decide) (by decide) ?_
      show Steps p.tables e below (s₁.setTop (mkF m 14 #[.val (.ref xd), .val (.int xn), .unset] [])) _
      refine XS.iloadN X0.here hx rfl (hb hby d_jdk_65_method_121_14) rfl ?_
      show Steps p.tables e below (s₁.setTop (mkF m 15 #[.val (.ref xd), .val (.int xn), .unset] [(.int xn)])) _
      refine st5 _ ?_
      show Steps p.tables e below (T5.setTop (mkF m 17 #[.val (.ref xd), .val (.int xn), .unset] [(.ref b5)])) _
      refine XS.astoreN X5.here hx rfl (hb hby d_jdk_65_method_121_17) rfl rfl (l' := #[.val (.ref xd), .val (.int xn), .val (.ref b5)]) rfl ?_
      show Steps p.tables e below (T5.setTop (mkF m 18 #[.val (.ref xd), .val (.int xn), .val (.ref b5)] [])) _
      refine XS.aloadN X5.here hx rfl (hb hby d_jdk_65_method_121_18) rfl rfl ?_
      show Steps p.tables e below (T5.setTop (mkF m 19 #[.val (.ref xd), .val (.int xn), .val (.ref b5)] [(.ref xd)])) _
      refine XS.iconst X5.here hx rfl (hb hby d_jdk_65_method_121_19) ?_
      show Steps p.tables e below (T5.setTop (mkF m 20 #[.val (.ref xd), .val (.int xn), .val (.ref b5)] [(.int (0 : Int32)), (.ref xd)])) _
      refine XS.aloadN X5.here hx rfl (hb hby d_jdk_65_method_121_20) rfl rfl ?_
      show Steps p.tables e below (T5.setTop (mkF m 21 #[.val (.ref xd), .val (.int xn), .val (.ref b5)] [(.ref b5), (.int (0 : Int32)), (.ref xd)])) _
      refine XS.iconst X5.here hx rfl (hb hby d_jdk_65_method_121_21) ?_
      show Steps p.tables e below (T5.setTop (mkF m 22 #[.val (.ref xd), .val (.int xn), .val (.ref b5)] [(.int (0 : Int32)), (.ref b5), (.int (0 : Int32)), (.ref xd)])) _
      refine XS.aloadN X5.here hx rfl (hb hby d_jdk_65_method_121_22) rfl rfl ?_
      show Steps p.tables e below (T5.setTop (mkF m 23 #[.val (.ref xd), .val (.int xn), .val (.ref b5)] [(.ref xd), (.int (0 : Int32)), (.ref b5), (.int (0 : Int32)), (.ref xd)])) _
      refine X5.arraylength hx (by rw [e5]; exact Ar6.1) (State.isArrayOf_alike hZ.alike Ar6.2.1) (g := (mkF m 23 #[.val (.ref xd), .val (.int xn), .val (.ref b5)] [(.ref xd), (.int (0 : Int32)), (.ref b5), (.int (0 : Int32)), (.ref xd)])) rfl rfl (hb hby d_jdk_65_method_121_23) _ ?_
      rw [ln6]
      show Steps p.tables e below (T5.setTop (mkF m 24 #[.val (.ref xd), .val (.int xn), .val (.ref b5)] [(.int (Int32.ofNat xs.length)), (.int (0 : Int32)), (.ref b5), (.int (0 : Int32)), (.ref xd)])) _
      refine XS.iloadN X5.here hx rfl (hb hby d_jdk_65_method_121_24) rfl ?_
      show Steps p.tables e below (T5.setTop (mkF m 25 #[.val (.ref xd), .val (.int xn), .val (.ref b5)] [(.int xn), (.int (Int32.ofNat xs.length)), (.int (0 : Int32)), (.ref b5), (.int (0 : Int32)), (.ref xd)])) _
      refine st7 _ ?_
      show Steps p.tables e below (T7.setTop (mkF m 28 #[.val (.ref xd), .val (.int xn), .val (.ref b5)] [(.int (minF (Int32.ofNat xs.length) xn)), (.int (0 : Int32)), (.ref b5), (.int (0 : Int32)), (.ref xd)])) _
      refine st8 _ ?_
      show Steps p.tables e below (T8.setTop (mkF m 31 #[.val (.ref xd), .val (.int xn), .val (.ref b5)] [])) _
      refine XS.aloadN X8.here hx rfl (hb hby d_jdk_65_method_121_31) rfl rfl ?_
      show Steps p.tables e below (T8.setTop (mkF m 32 #[.val (.ref xd), .val (.int xn), .val (.ref b5)] [(.ref b5)])) _
      jvm_step X8.here [X8.here.top, hx, (hb hby d_jdk_65_method_121_32), X8.method', Bd.returns, Value.isRef, FieldType.isReference]
      first | (intro acts; rw [hr _ acts rfl rfl rfl]) | rw [hr _ _ rfl rfl rfl]
      exact Steps.refl _
    · show Q_cpb Z xd xn xs h0 n0 _ T8.heap _
      rw [e8]
      exact ⟨(by rw [g5]), N8, ((Keep.refl h0 []).ext E5).trans K8 (allS (Or.inr (Nat.le_of_eq g5.symm)) all0), (by rw [← g5]; exact AC8)⟩
theorem d_jdk_2005_method_10_0 : decode jdk_2005_method_10_code 0 = .ok (.aload_n 0, 1) := by decide +kernel
theorem d_jdk_2005_method_10_1 : decode jdk_2005_method_10_code 1 = .ok (.getfield 49, 3) := by decide +kernel
theorem d_jdk_2005_method_10_4 : decode jdk_2005_method_10_code 4 = .ok (.ireturn, 1) := by decide +kernel
def Q_size (Z : State) (xa : Addr) (ar : Addr) (xs : List Int32) (cnt : Int32) (ys : List Int32) (h0 : Heap) (n0 : Nat) (v : Option Value) (h : Heap) (L : List Loc) : Prop := v = some (.int cnt) ∧ Fr n0 L ∧ RO Z n0 h xa ar xs cnt ys
set_option maxRecDepth 65536 in
set_option maxHeartbeats 40000000 in
theorem rm_size (l : Launch) (Z : State) (a0 : Array Value) (hw : ∀ d ∈ tables_1, d.before a0 Z = true) (ws : List Jvm.Cond) (hmem : Cond.instanceMethod (⟨"java/io/ByteArrayOutputStream", "size", "()I"⟩ : MethodName) ∈ ws) (xa : Addr) (ar : Addr) (xs : List Int32) (cnt : Int32) (ys : List Int32) (h0 : Heap) (n0 : Nat) (Z0 : n0 ≤ h0.size) (hS : RO Z n0 h0 xa ar xs cnt ys) :
    MetFree l (⟨"java/io/ByteArrayOutputStream", "size", "()I"⟩ : MethodName) (head1 (Jvm.Cond.codeSync (⟨"java/io/ByteArrayOutputStream", "size", "()I"⟩ : MethodName) jdk_2005_method_10_code 1 (some .int) :: ws) ({ frames := 0, cells := 0, slots := 0, locals := 0 } : Room)) (fun a U => a = #[(.ref xa)] ∧ Z.Warmed39 U.vm ∧ U.heap = h0 ∧ ∃ cell : Cell, h0[xa]? = some cell ∧ cell.enterable U.cur) (fun _ _ _ _ _ => True) (fun _ U o U' => ∃ v L, o = .returned v ∧ Q_size Z xa ar xs cnt ys h0 n0 v U'.heap L ∧ FrameEnd U o U' L ({ frames := 0, cells := 0, slots := 0, locals := 0 } : Room).cells ({ frames := 0, cells := 0, slots := 0, locals := 0 } : Room).slots) := by
  refine MetFree.of_bodySync (plainFor_of_name pn_1) (hisS hmem) (fun _ s _ ⟨h1, _, h2, cl, h3, h4⟩ => ⟨xa, cl, by rw [h1]; rfl, by rw [h2]; exact h3, h4⟩) ?_
  intro p e s0 m args below meth c a' cell s₁ Bd hml0 hP _
  obtain ⟨rfl, hZ0, hh0, -⟩ := hP
  cases Bd.receiver
  have hx := Bd.exec
  have hby := Bd.bytes
  have hml : c.maxLocals = 1 := hml0
  have X0 : Stand p l e ({ frames := 0, cells := 0, slots := 0, locals := 0 } : Room) (s0.setCell xa (cell.withEntry s0.cur)) m #[(.ref xa)] below meth c s₁ [] 0 0 := Stand.of_bodySync Bd
  have hZ : Z.Warmed39 (s0.setCell xa (cell.withEntry s0.cur)).vm := hZ0
  have hown : (s0.setCell xa (cell.withEntry s0.cur)).vm.findClass "java/io/ByteArrayOutputStream" = some m.cls := (findClass_of_methodNamed Bd.named :)
  have M0 : Mon h0 s₁.heap := by rw [← hh0, Bd.state]; exact mon_set Bd.object _
  obtain ⟨hm0, em0⟩ : ∃ z, s₁.heap = z := ⟨_, rfl⟩
  rw [em0] at M0
  have Zm0 : n0 ≤ hm0.size := by rw [M0.size]; exact Z0
  have N0 := Fr.nil n0
  obtain ⟨bb, Ex, Un, Fb, Fc, Ab, Ay, neb, ga, gb⟩ := id hS
  obtain ⟨T1, X1, e1, st1⟩ := getF X0 hx hZ hown (host := "") (Or.inl (hw _ (List.mem_of_getElem? (i := 42) rfl))) Via.refl em0 (Fc.mon M0) (g := (mkL xa m 1 #[.val (.ref xa)] [(.ref xa)])) rfl rfl (hb hby d_jdk_2005_method_10_1)
  obtain ⟨V, hr, hrun, hended, M1, hWm, hsame⟩ := leaveS X1 Bd.object Bd.enterable Bd.synchronized (v := some (.int cnt)) (fun h => by rw [Bd.returns] at h; cases h)
  rw [e1] at M1
  have UnV0 := own_unt hsame (a := xa) (by rw [hh0]; exact Un)
  have UnV : Unt V.heap xa := UnV0
  refine ⟨V, _, ?_, hrun, hended, _, _, rfl, ?_, ⟨_, rfl⟩, hWm, hsame.mono (by decide) (by decide)⟩
  · show Steps p.tables e below (s₁.setTop (mkL xa m 0 #[.val (.ref xa)] [])) _
    refine XS.aloadN X0.here hx rfl (hb hby d_jdk_2005_method_10_0) rfl rfl ?_
    show Steps p.tables e below (s₁.setTop (mkL xa m 1 #[.val (.ref xa)] [(.ref xa)])) _
    refine st1 _ ?_
    show Steps p.tables e below (T1.setTop (mkL xa m 4 #[.val (.ref xa)] [(.int cnt)])) _
    exact retS X1 hx Bd.returns rfl (Or.inl ⟨rfl, Or.inl rfl, _, rfl⟩) (hb hby d_jdk_2005_method_10_4) hr
  · show Q_size Z xa ar xs cnt ys h0 n0 _ V.heap _
    exact ⟨rfl, N0, ⟨bb, (Ex.mon M0).mon M1, UnV, (Fb.mon M0).mon M1, (Fc.mon M0).mon M1, (Ab.mon M0).mon M1, (Ay.mon M0).mon M1, neb, ga, gb⟩⟩
def wrF (xs ys : List Int32) (n : Int32) : List Int32 := ys.take n.toNatClampNeg ++ xs.drop n.toNatClampNeg
theorem wr_len {xs ys : List Int32} {n : Int32} (hx : xs.length = 32) (hy : ys.length = 32) (h : n.toNatClampNeg ≤ 32) : (wrF xs ys n).length = 32 := by
  show (ys.take _ ++ xs.drop _).length = _; rw [List.length_append, List.length_take, List.length_drop]; omega
theorem own_le32 {n : Int32} (hn0 : ¬ n < 0) (h : n.toNatClampNeg ≤ 32) : 0 ≤ n.toInt ∧ n.toInt ≤ 32 := by rw [own_int hn0]; omega
theorem own_c5 {ys : List Int32} {n : Int32} (hy : ys.length = 32) (hn0 : ¬ n < 0) (h : n.toNatClampNeg ≤ 32) : ¬ (((Int32.ofNat ys.length ||| (0 : Int32)) ||| n) < (0 : Int32)) := by
  rw [hy, Int32.lt_iff_toInt_lt]
  have q := own_le32 hn0 h
  have a := (c_or0 (Int32.ofNat 32 ||| (0 : Int32)) n (by decide) q.1).2
  show ¬ _ < (0 : Int); omega
theorem own_c12 {ys : List Int32} {n : Int32} (hy : ys.length = 32) (hn0 : ¬ n < 0) (h : n.toNatClampNeg ≤ 32) : ¬ ((Int32.ofNat ys.length - (0 : Int32)) < n) := by
  rw [hy, Int32.lt_iff_toInt_lt]
  have q := own_le32 hn0 h
  show ¬ (32 : Int) < _; omega
theorem own_z {n : Int32} : ((0 : Int32) + n).toInt = n.toInt := by have a := c_iadd 0 n; have r := rng32 ((0 : Int32) + n); have r' := rng32 n; rw [show (0 : Int32).toInt = 0 from rfl] at a; omega
theorem own_ens {xs : List Int32} {n : Int32} (hx : xs.length = 32) (hn0 : ¬ n < 0) (h : n.toNatClampNeg ≤ 32) : ¬ (0 : Int32) < ((0 : Int32) + n) - Int32.ofNat xs.length := by
  rw [hx, Int32.lt_iff_toInt_lt]
  have q := own_le32 hn0 h
  have a := c_isub ((0 : Int32) + n) (Int32.ofNat 32); have r := rng32 (((0 : Int32) + n) - Int32.ofNat 32)
  rw [own_z, show (Int32.ofNat 32).toInt = 32 from rfl] at a
  show ¬ (0 : Int) < _; omega
theorem own_wr {Z : State} {h : Heap} {b : Addr} {k : ClassId} {xs ys : List Int32} {n : Int32} (hx : xs.length = 32) (hy : ys.length = 32) (hn : n.toNatClampNeg ≤ 32) (E : Exa Z h b "[B")
    (B : Arv Z h b k .byte (Int32.ofNat xs.length) ((vI xs).take (0 : Int32).toNatClampNeg ++ vI (ys.take n.toNatClampNeg) ++ (vI xs).drop ((0 : Int32).toNatClampNeg + n.toNatClampNeg)) (.int 0)) : BA Z h b (wrF xs ys n) := by
  refine ⟨by rw [wr_len hx hy hn]; decide, E, k, ?_⟩
  rw [hx, show (0 : Int32).toNatClampNeg = 0 from rfl, List.take_zero, List.nil_append, Nat.zero_add] at B
  rw [wr_len hx hy hn, show vI (wrF xs ys n) = vI (ys.take n.toNatClampNeg) ++ (vI xs).drop n.toNatClampNeg from by
    show (ys.take _ ++ xs.drop _).map _ = _
    rw [List.map_append]; show vI _ ++ _ = _; congr 1; rw [vI, List.map_drop]]
  exact B
theorem own_usW {ys : List Int32} {n : Int32} (h : n.toNatClampNeg ≤ ys.length) : vI (ys.take n.toNatClampNeg) = (List.range n.toNatClampNeg).map fun i => (vI ys).getD ((0 : Int32).toNatClampNeg + i) (.int 0) := by
  rw [show (0 : Int32).toNatClampNeg = 0 from rfl, own_rangeT (vI ys) (.int 0) _ (by show _ ≤ (List.map _ _).length; rw [List.length_map]; exact h)]
  show (ys.take _).map _ = (ys.map _).take _
  rw [← List.map_take]
theorem d_jdk_2005_method_5_0 : decode jdk_2005_method_5_code 0 = .ok (.iload_n 2, 1) := by decide +kernel
theorem d_jdk_2005_method_5_1 : decode jdk_2005_method_5_code 1 = .ok (.iload_n 3, 1) := by decide +kernel
theorem d_jdk_2005_method_5_2 : decode jdk_2005_method_5_code 2 = .ok (.aload_n 1, 1) := by decide +kernel
theorem d_jdk_2005_method_5_3 : decode jdk_2005_method_5_code 3 = .ok (.arraylength, 1) := by decide +kernel
theorem d_jdk_2005_method_5_4 : decode jdk_2005_method_5_code 4 = .ok (.invokestatic 56, 3) := by decide +kernel
theorem d_jdk_2005_method_5_7 : decode jdk_2005_method_5_code 7 = .ok (.pop, 1) := by decide +kernel
theorem d_jdk_2005_method_5_8 : decode jdk_2005_method_5_code 8 = .ok (.aload_n 0, 1) := by decide +kernel
theorem d_jdk_2005_method_5_9 : decode jdk_2005_method_5_code 9 = .ok (.aload_n 0, 1) := by decide +kernel
theorem d_jdk_2005_method_5_10 : decode jdk_2005_method_5_code 10 = .ok (.getfield 49, 3) := by decide +kernel
theorem d_jdk_2005_method_5_13 : decode jdk_2005_method_5_code 13 = .ok (.iload_n 3, 1) := by decide +kernel
theorem d_jdk_2005_method_5_14 : decode jdk_2005_method_5_code 14 = .ok (.iadd, 1) := by decide +kernel
theorem d_jdk_2005_method_5_15 : decode jdk_2005_method_5_code 15 = .ok (.invokevirtual 53, 3) := by decide +kernel
theorem d_jdk_2005_method_5_18 : decode jdk_2005_method_5_code 18 = .ok (.aload_n 1, 1) := by decide +kernel
theorem d_jdk_2005_method_5_19 : decode jdk_2005_method_5_code 19 = .ok (.iload_n 2, 1) := by decide +kernel
theorem d_jdk_2005_method_5_20 : decode jdk_2005_method_5_code 20 = .ok (.aload_n 0, 1) := by decide +kernel
theorem d_jdk_2005_method_5_21 : decode jdk_2005_method_5_code 21 = .ok (.getfield 33, 3) := by decide +kernel
theorem d_jdk_2005_method_5_24 : decode jdk_2005_method_5_code 24 = .ok (.aload_n 0, 1) := by decide +kernel
theorem d_jdk_2005_method_5_25 : decode jdk_2005_method_5_code 25 = .ok (.getfield 49, 3) := by decide +kernel
theorem d_jdk_2005_method_5_28 : decode jdk_2005_method_5_code 28 = .ok (.iload_n 3, 1) := by decide +kernel
theorem d_jdk_2005_method_5_29 : decode jdk_2005_method_5_code 29 = .ok (.invokestatic 61, 3) := by decide +kernel
theorem d_jdk_2005_method_5_32 : decode jdk_2005_method_5_code 32 = .ok (.aload_n 0, 1) := by decide +kernel
theorem d_jdk_2005_method_5_33 : decode jdk_2005_method_5_code 33 = .ok (.dup, 1) := by decide +kernel
theorem d_jdk_2005_method_5_34 : decode jdk_2005_method_5_code 34 = .ok (.getfield 49, 3) := by decide +kernel
theorem d_jdk_2005_method_5_37 : decode jdk_2005_method_5_code 37 = .ok (.iload_n 3, 1) := by decide +kernel
theorem d_jdk_2005_method_5_38 : decode jdk_2005_method_5_code 38 = .ok (.iadd, 1) := by decide +kernel
theorem d_jdk_2005_method_5_39 : decode jdk_2005_method_5_code 39 = .ok (.putfield 49, 3) := by decide +kernel
theorem d_jdk_2005_method_5_42 : decode jdk_2005_method_5_code 42 = .ok (.return_, 1) := by decide +kernel
theorem pd_4 : parseMethodDescriptor "(III)I" = some ⟨[.int, .int, .int], some .int⟩ := by decide +kernel
def Q_wn (Z : State) (xa : Addr) (ar : Addr) (xn : Int32) (xs : List Int32) (ys : List Int32) (h0 : Heap) (n0 : Nat) (v : Option Value) (h : Heap) (L : List Loc) : Prop := v = none ∧ Fr n0 L ∧ RO Z n0 h xa ar (wrF xs ys xn) ((0 : Int32) + xn) ys
set_option maxRecDepth 65536 in
set_option maxHeartbeats 40000000 in
theorem rm_wn (l : Launch) (Z : State) (a0 : Array Value) (hw : ∀ d ∈ tables_1, d.before a0 Z = true) (ws : List Jvm.Cond) (hmem : Cond.instanceMethod (⟨"java/io/ByteArrayOutputStream", "write", "([BII)V"⟩ : MethodName) ∈ ws) (xa : Addr) (ar : Addr) (xn : Int32) (xs : List Int32) (ys : List Int32) (h0 : Heap) (n0 : Nat) (Z0 : n0 ≤ h0.size) (hS : RO Z n0 h0 xa ar xs 0 ys) (hxl : xs.length = 32) (hyl : ys.length = 32) (hn0 : ¬ xn < 0) (hn : xn.toNatClampNeg ≤ 32) :
    MetFree l (⟨"java/io/ByteArrayOutputStream", "write", "([BII)V"⟩ : MethodName) (head1 (Jvm.Cond.codeSync (⟨"java/io/ByteArrayOutputStream", "write", "([BII)V"⟩ : MethodName) jdk_2005_method_5_code 4 none :: ws) ({ frames := 2, cells := 0, slots := 0, locals := 64 } : Room)) (fun a U => a = #[(.ref xa), (.ref ar), (.int (0 : Int32)), (.int xn)] ∧ Z.Warmed39 U.vm ∧ U.heap = h0 ∧ ∃ cell : Cell, h0[xa]? = some cell ∧ cell.enterable U.cur) (fun _ _ _ _ _ => True) (fun _ U o U' => ∃ v L, o = .returned v ∧ Q_wn Z xa ar xn xs ys h0 n0 v U'.heap L ∧ FrameEnd U o U' L ({ frames := 2, cells := 0, slots := 0, locals := 64 } : Room).cells ({ frames := 2, cells := 0, slots := 0, locals := 64 } : Room).slots) := by
  refine MetFree.of_bodySync (plainFor_of_name pn_1) (hisS hmem) (fun _ s _ ⟨h1, _, h2, cl, h3, h4⟩ => ⟨xa, cl, by rw [h1]; rfl, by rw [h2]; exact h3, h4⟩) ?_
  intro p e s0 m args below meth c a' cell s₁ Bd hml0 hP _
  obtain ⟨rfl, hZ0, hh0, -⟩ := hP
  cases Bd.receiver
  have hx := Bd.exec
  have hby := Bd.bytes
  have hml : c.maxLocals = 4 := hml0
  have X0 : Stand p l e ({ frames := 2, cells := 0, slots := 0, locals := 64 } : Room) (s0.setCell xa (cell.withEntry s0.cur)) m #[(.ref xa), (.ref ar), (.int (0 : Int32)), (.int xn)] below meth c s₁ [] 0 0 := Stand.of_bodySync Bd
  have hZ : Z.Warmed39 (s0.setCell xa (cell.withEntry s0.cur)).vm := hZ0
  have hown : (s0.setCell xa (cell.withEntry s0.cur)).vm.findClass "java/io/ByteArrayOutputStream" = some m.cls := (findClass_of_methodNamed Bd.named :)
  have M0 : Mon h0 s₁.heap := by rw [← hh0, Bd.state]; exact mon_set Bd.object _
  obtain ⟨hm0, em0⟩ : ∃ z, s₁.heap = z := ⟨_, rfl⟩
  rw [em0] at M0
  have Zm0 : n0 ≤ hm0.size := by rw [M0.size]; exact Z0
  have N0 := Fr.nil n0
  obtain ⟨bb, Ex, Un, Fb, Fc, Ab, Ay, neb, ga, gb⟩ := id hS
  obtain ⟨cl1, Ar1, ln1⟩ := (Ay.mon M0).ln
  obtain ⟨_, _, ⟨T2, L2, k2, n2⟩, -, X2, ⟨Lc2, hQ2, l2, y2, z2⟩, st2⟩ := Jvm.LawKit.callS X0 hx (y := (⟨"java/util/Objects", "checkFromIndexSize", "(III)I"⟩ : MethodName)) hown (mvT hZ (hw _ (List.mem_of_getElem? (i := 34) rfl))) (mvT hZ (hw _ (List.mem_of_getElem? (i := 35) rfl))) (mvT hZ (hw _ (List.mem_of_getElem? (i := 36) rfl))) (mvT hZ (hw _ (List.mem_of_getElem? (i := 37) rfl))) (by decide) (backOf (W := 2) (rm_chk l Z a0 hw [] (0 : Int32) xn (Int32.ofNat ys.length) hm0 n0 Zm0 (own_c5 hyl hn0 hn) (own_c12 hyl hn0 hn)) hZ (hw _ (List.mem_of_getElem? (i := 37) rfl)) (hw _ (List.mem_of_getElem? (i := 36) rfl)) (by decide) (by decide)) (g := (mkL xa m 4 #[.val (.ref xa), .val (.ref ar), .val (.int (0 : Int32)), .val (.int xn)] [(.int (Int32.ofNat ys.length)), (.int xn), (.int (0 : Int32))])) rfl (by rw [hml]; rfl) (argsL := [(.int (0 : Int32)), (.int xn), (.int (Int32.ofNat ys.length))]) (rest := []) (lenOf pd_4 rfl) rfl (by show 2 * 1 + _ ≤ _; exact Nat.le_of_eq rfl) (hb hby d_jdk_2005_method_5_4) (fun _ _ => ⟨rfl, em0, (by decide : 0 + 0 ≤ _), (by decide : 0 + 0 ≤ _)⟩)
  dsimp only [Pt.U, Pt.locs, Pt.cells, Pt.slots] at X2 l2 y2 z2 st2 hQ2
  subst l2 y2 z2
  obtain ⟨rfl, N2q, e2⟩ := hQ2
  have N2 := Fr.app N0 N2q
  obtain ⟨T3, X3, e3, st3⟩ := getF X2 hx hZ hown (host := "") (Or.inl (hw _ (List.mem_of_getElem? (i := 42) rfl))) Via.refl e2 (Fc.mon M0) (g := (mkL xa m 10 #[.val (.ref xa), .val (.ref ar), .val (.int (0 : Int32)), .val (.int xn)] [(.ref xa), (.ref xa)])) rfl rfl (hb hby d_jdk_2005_method_5_10)
  obtain ⟨cq4, q4, q4'⟩ := ((Ex.mon M0)).cell
  have pv4 := Cond.privateMethod_at (mvP hZ (hw _ (List.mem_of_getElem? (i := 46) rfl)) (args := #[]))
  obtain ⟨cu4, ru4, mu4, -, -, u34, -, ku4, u54, u64⟩ := Cond.selects_spec (mvT (args := #[]) hZ (hw _ (List.mem_of_getElem? (i := 47) rfl)))
  obtain ⟨_, _, ⟨T4, L4, k4, n4⟩, -, X4, ⟨Lc4, hQ4, l4, y4, z4⟩, st4⟩ := X3.privateBack hx (y := (⟨"java/io/ByteArrayOutputStream", "ensureCapacity", "(I)V"⟩ : MethodName)) hown (mvT hZ (hw _ (List.mem_of_getElem? (i := 44) rfl))) (mvT hZ (hw _ (List.mem_of_getElem? (i := 45) rfl))) (Jvm.Stand.selects_self_of_private (y := (⟨"java/io/ByteArrayOutputStream", "ensureCapacity", "(I)V"⟩ : MethodName)) (findClass_of_methodNamed u34) u54 u64 pv4 (mvT hZ (hw _ (List.mem_of_getElem? (i := 45) rfl))) (by decide)) pv4 (mvT hZ (hw _ (List.mem_of_getElem? (i := 48) rfl))) (by decide) (backOf (W := 2) (rm_ens l Z a0 hw [] xa ((0 : Int32) + xn) bb xs hm0 n0 Zm0 (Fb.mon M0) (Ab.mon M0) (own_ens hxl hn0 hn)) hZ (hw _ (List.mem_of_getElem? (i := 48) rfl)) (hw _ (List.mem_of_getElem? (i := 11) rfl)) (by decide) (by decide)) (g := (mkL xa m 15 #[.val (.ref xa), .val (.ref ar), .val (.int (0 : Int32)), .val (.int xn)] [(.int ((0 : Int32) + xn)), (.ref xa)])) rfl (by rw [hml]; rfl) (Steps.refl _) (a := xa) (by rw [e3]; exact q4) q4' (argsL := [(.int ((0 : Int32) + xn))]) (rest := []) (lenOf pd_1 rfl) rfl (by show 2 * 1 + _ ≤ _; exact Nat.le_of_eq rfl) (hb hby d_jdk_2005_method_5_15) (fun _ _ => ⟨rfl, e3, (by decide : 0 + 0 ≤ _), (by decide : 0 + 0 ≤ _)⟩)
  dsimp only [Pt.U, Pt.locs, Pt.cells, Pt.slots] at X4 l4 y4 z4 st4 hQ4
  subst l4 y4 z4
  obtain ⟨rfl, N4q, e4⟩ := hQ4
  have N4 := Fr.app N2 N4q
  obtain ⟨T5, X5, e5, st5⟩ := getF X4 hx hZ hown (host := "") (Or.inl (hw _ (List.mem_of_getElem? (i := 26) rfl))) Via.refl e4 (Fb.mon M0) (g := (mkL xa m 21 #[.val (.ref xa), .val (.ref ar), .val (.int (0 : Int32)), .val (.int xn)] [(.ref xa), (.int (0 : Int32)), (.ref ar)])) rfl rfl (hb hby d_jdk_2005_method_5_21)
  obtain ⟨T6, X6, e6, st6⟩ := getF X5 hx hZ hown (host := "") (Or.inl (hw _ (List.mem_of_getElem? (i := 42) rfl))) Via.refl e5 (Fc.mon M0) (g := (mkL xa m 25 #[.val (.ref xa), .val (.ref ar), .val (.int (0 : Int32)), .val (.int xn)] [(.ref xa), (.ref bb), (.int (0 : Int32)), (.ref ar)])) rfl rfl (hb hby d_jdk_2005_method_5_25)
  obtain ⟨lS7, xS7, kS7, vS7⟩ := id (Ay.mon M0)
  obtain ⟨lB7, xB7, kB7, vB7⟩ := id (Ab.mon M0)
  obtain ⟨T7, h7, Ln7, X7, e7, N7, K7, B7, st7⟩ := cpA X6 hx hZ hown (hw _ (List.mem_of_getElem? (i := 49) rfl)) (hw _ (List.mem_of_getElem? (i := 52) rfl)) (hw _ (List.mem_of_getElem? (i := 50) rfl)) (hw _ (List.mem_of_getElem? (i := 51) rfl)) e6 (us := vI (ys.take xn.toNatClampNeg)) vS7 vB7 (Or.inl ⟨rfl, rfl⟩) (by decide) (by decide) hn0 (by rw [own_clamp lS7, hyl]; show 0 + _ ≤ _; omega) (by rw [own_clamp lB7, hxl]; show 0 + _ ≤ _; omega) (own_usW (by rw [hyl]; exact hn)) (by show 0 + _ ≤ (List.map _ _).length; rw [List.length_map, hxl]; omega) N4 gb (g := (mkL xa m 29 #[.val (.ref xa), .val (.ref ar), .val (.int (0 : Int32)), .val (.int xn)] [(.int xn), (.int (0 : Int32)), (.ref bb), (.int (0 : Int32)), (.ref ar)])) rfl (by rw [hml]; rfl) rfl (hb hby d_jdk_2005_method_5_29) (by decide) (W := 2) (by show 2 * 1 + _ ≤ _; exact Nat.le_of_eq rfl) (by decide)
  have F7_buf := (Fb.mon M0).keep K7 (ninS ((Ab.mon M0).neE (Ex.mon M0) (by decide)) nin0)
  have F7_count := (Fc.mon M0).keep K7 (ninS ((Ab.mon M0).neE (Ex.mon M0) (by decide)) nin0)
  have Ex7_xa := (Ex.mon M0).keep K7
  have A7_ar := (Ay.mon M0).keep K7 (ninS (Ne.symm neb) nin0)
  have AC7 : BA Z h7 bb (wrF xs ys xn) := own_wr hxl hyl hn (xB7.keep K7) B7
  obtain ⟨T8, X8, e8, st8⟩ := getF X7 hx hZ hown (host := "") (Or.inl (hw _ (List.mem_of_getElem? (i := 42) rfl))) Via.refl e7 F7_count (g := (mkL xa m 34 #[.val (.ref xa), .val (.ref ar), .val (.int (0 : Int32)), .val (.int xn)] [(.ref xa), (.ref xa)])) rfl rfl (hb hby d_jdk_2005_method_5_34)
  obtain ⟨T9, h9, X9, e9, W9, st9⟩ := putF X8 hx hZ hown (host := "") (Or.inl (hw _ (List.mem_of_getElem? (i := 42) rfl))) Via.refl e8 F7_count Ex7_xa (Or.inl (hw _ (List.mem_of_getElem? (i := 43) rfl))) (hw _ (List.mem_of_getElem? (i := 3) rfl)) (ty := .int) (by decide) rfl rfl (g := (mkL xa m 39 #[.val (.ref xa), .val (.ref ar), .val (.int (0 : Int32)), .val (.int xn)] [(.int ((0 : Int32) + xn)), (.ref xa)])) rfl rfl (hb hby d_jdk_2005_method_5_39)
  have F9_buf := F7_buf.other W9 (Or.inr (slot_ne (Or.inl (hw _ (List.mem_of_getElem? (i := 27) rfl))) (Or.inl (hw _ (List.mem_of_getElem? (i := 43) rfl))) (by decide) (t := (.array .byte)) (t' := .int) (by decide) (by decide)))
  have F9_count := F7_count.same W9
  have Ex9_xa := Ex7_xa.wr W9
  have A9_ar := A7_ar.other W9 (Ne.symm (A7_ar.neE Ex7_xa (by decide)))
  have A9_bb := AC7.other W9 (Ne.symm (AC7.neE Ex7_xa (by decide)))
  have N9 := Fr.snoc X9 N7 ga
  obtain ⟨V, hr, hrun, hended, M1, hWm, hsame⟩ := leaveS X9 Bd.object Bd.enterable Bd.synchronized (v := none) (fun _ => rfl)
  rw [e9] at M1
  have UnV0 := own_unt hsame (a := xa) (by rw [hh0]; exact Un)
  have UnV : Unt V.heap xa := UnV0
  refine ⟨V, _, ?_, hrun, hended, _, _, rfl, ?_, ⟨_, rfl⟩, hWm, hsame.mono (by decide) (by decide)⟩
  · show Steps p.tables e below (s₁.setTop (mkL xa m 0 #[.val (.ref xa), .val (.ref ar), .val (.int (0 : Int32)), .val (.int xn)] [])) _
    refine XS.iloadN X0.here hx rfl (hb hby d_jdk_2005_method_5_0) rfl ?_
    show Steps p.tables e below (s₁.setTop (mkL xa m 1 #[.val (.ref xa), .val (.ref ar), .val (.int (0 : Int32)), .val (.int xn)] [(.int (0 : Int32))])) _
    refine XS.iloadN X0.here hx rfl (hb hby d_jdk_2005_method_5_1) rfl ?_
    show Steps p.tables e below (s₁.setTop (mkL xa m 2 #[.val (.ref xa), .val (.ref ar), .val (.int (0 : Int32)), .val (.int xn)] [(.int xn), (.int (0 : Int32))])) _
    refine XS.aloadN X0.here hx rfl (hb hby d_jdk_2005_method_5_2) rfl rfl ?_
    show Steps p.tables e below (s₁.setTop (mkL xa m 3 #[.val (.ref xa), .val (.ref ar), .val (.int (0 : Int32)), .val (.int xn)] [(.ref ar), (.int xn), (.int (0 : Int32))])) _
    refine X0.arraylength hx (by rw [em0]; exact Ar1.1) (State.isArrayOf_alike hZ.alike Ar1.2.1) (g := (mkL xa m 3 #[.val (.ref xa), .val (.ref ar), .val (.int (0 : Int32)), .val (.int xn)] [(.ref ar), (.int xn), (.int (0 : Int32))])) rfl rfl (hb hby d_jdk_2005_method_5_3) _ ?_
    rw [ln1]
    show Steps p.tables e below (s₁.setTop (mkL xa m 4 #[.val (.ref xa), .val (.ref ar), .val (.int (0 : Int32)), .val (.int xn)] [(.int (Int32.ofNat ys.length)), (.int xn), (.int (0 : Int32))])) _
    refine st2 _ ?_
    show Steps p.tables e below (T2.setTop (mkL xa m 7 #[.val (.ref xa), .val (.ref ar), .val (.int (0 : Int32)), .val (.int xn)] [(.int (0 : Int32))])) _
    refine XS.pop X2.here hx rfl (hb hby d_jdk_2005_method_5_7) rfl rfl ?_
    show Steps p.tables e below (T2.setTop (mkL xa m 8 #[.val (.ref xa), .val (.ref ar), .val (.int (0 : Int32)), .val (.int xn)] [])) _
    refine XS.aloadN X2.here hx rfl (hb hby d_jdk_2005_method_5_8) rfl rfl ?_
    show Steps p.tables e below (T2.setTop (mkL xa m 9 #[.val (.ref xa), .val (.ref ar), .val (.int (0 : Int32)), .val (.int xn)] [(.ref xa)])) _
    refine XS.aloadN X2.here hx rfl (hb hby d_jdk_2005_method_5_9) rfl rfl ?_
    show Steps p.tables e below (T2.setTop (mkL xa m 10 #[.val (.ref xa), .val (.ref ar), .val (.int (0 : Int32)), .val (.int xn)] [(.ref xa), (.ref xa)])) _
    refine st3 _ ?_
    show Steps p.tables e below (T3.setTop (mkL xa m 13 #[.val (.ref xa), .val (.ref ar), .val (.int (0 : Int32)), .val (.int xn)] [(.int (0 : Int32)), (.ref xa)])) _
    refine XS.iloadN X3.here hx rfl (hb hby d_jdk_2005_method_5_13) rfl ?_
    show Steps p.tables e below (T3.setTop (mkL xa m 14 #[.val (.ref xa), .val (.ref ar), .val (.int (0 : Int32)), .val (.int xn)] [(.int xn), (.int (0 : Int32)), (.ref xa)])) _
    refine XS.iadd X3.here hx rfl (hb hby d_jdk_2005_method_5_14) rfl ?_
    show Steps p.tables e below (T3.setTop (mkL xa m 15 #[.val (.ref xa), .val (.ref ar), .val (.int (0 : Int32)), .val (.int xn)] [(.int ((0 : Int32) + xn)), (.ref xa)])) _
    refine st4.trans ?_
    show Steps p.tables e below (T4.setTop (mkL xa m 18 #[.val (.ref xa), .val (.ref ar), .val (.int (0 : Int32)), .val (.int xn)] [])) _
    refine XS.aloadN X4.here hx rfl (hb hby d_jdk_2005_method_5_18) rfl rfl ?_
    show Steps p.tables e below (T4.setTop (mkL xa m 19 #[.val (.ref xa), .val (.ref ar), .val (.int (0 : Int32)), .val (.int xn)] [(.ref ar)])) _
    refine XS.iloadN X4.here hx rfl (hb hby d_jdk_2005_method_5_19) rfl ?_
    show Steps p.tables e below (T4.setTop (mkL xa m 20 #[.val (.ref xa), .val (.ref ar), .val (.int (0 : Int32)), .val (.int xn)] [(.int (0 : Int32)), (.ref ar)])) _
    refine XS.aloadN X4.here hx rfl (hb hby d_jdk_2005_method_5_20) rfl rfl ?_
    show Steps p.tables e below (T4.setTop (mkL xa m 21 #[.val (.ref xa), .val (.ref ar), .val (.int (0 : Int32)), .val (.int xn)] [(.ref xa), (.int (0 : Int32)), (.ref ar)])) _
    refine st5 _ ?_
    show Steps p.tables e below (T5.setTop (mkL xa m 24 #[.val (.ref xa), .val (.ref ar), .val (.int (0 : Int32)), .val (.int xn)] [(.ref bb), (.int (0 : Int32)), (.ref ar)])) _
    refine XS.aloadN X5.here hx rfl (hb hby d_jdk_2005_method_5_24) rfl rfl ?_
    show Steps p.tables e below (T5.setTop (mkL xa m 25 #[.val (.ref xa), .val (.ref ar), .val (.int (0 : Int32)), .val (.int xn)] [(.ref xa), (.ref bb), (.int (0 : Int32)), (.ref ar)])) _
    refine st6 _ ?_
    show Steps p.tables e below (T6.setTop (mkL xa m 28 #[.val (.ref xa), .val (.ref ar), .val (.int (0 : Int32)), .val (.int xn)] [(.int (0 : Int32)), (.ref bb), (.int (0 : Int32)), (.ref ar)])) _
    refine XS.iloadN X6.here hx rfl (hb hby d_jdk_2005_method_5_28) rfl ?_
    show Steps p.tables e below (T6.setTop (mkL xa m 29 #[.val (.ref xa), .val (.ref ar), .val (.int (0 : Int32)), .val (.int xn)] [(.int xn), (.int (0 : Int32)), (.ref bb), (.int (0 : Int32)), (.ref ar)])) _
    refine st7 _ ?_
    show Steps p.tables e below (T7.setTop (mkL xa m 32 #[.val (.ref xa), .val (.ref ar), .val (.int (0 : Int32)), .val (.int xn)] [])) _
    refine XS.aloadN X7.here hx rfl (hb hby d_jdk_2005_method_5_32) rfl rfl ?_
    show Steps p.tables e below (T7.setTop (mkL xa m 33 #[.val (.ref xa), .val (.ref ar), .val (.int (0 : Int32)), .val (.int xn)] [(.ref xa)])) _
    refine XS.dup X7.here hx rfl (hb hby d_jdk_2005_method_5_33) rfl rfl ?_
    show Steps p.tables e below (T7.setTop (mkL xa m 34 #[.val (.ref xa), .val (.ref ar), .val (.int (0 : Int32)), .val (.int xn)] [(.ref xa), (.ref xa)])) _
    refine st8 _ ?_
    show Steps p.tables e below (T8.setTop (mkL xa m 37 #[.val (.ref xa), .val (.ref ar), .val (.int (0 : Int32)), .val (.int xn)] [(.int (0 : Int32)), (.ref xa)])) _
    refine XS.iloadN X8.here hx rfl (hb hby d_jdk_2005_method_5_37) rfl ?_
    show Steps p.tables e below (T8.setTop (mkL xa m 38 #[.val (.ref xa), .val (.ref ar), .val (.int (0 : Int32)), .val (.int xn)] [(.int xn), (.int (0 : Int32)), (.ref xa)])) _
    refine XS.iadd X8.here hx rfl (hb hby d_jdk_2005_method_5_38) rfl ?_
    show Steps p.tables e below (T8.setTop (mkL xa m 39 #[.val (.ref xa), .val (.ref ar), .val (.int (0 : Int32)), .val (.int xn)] [(.int ((0 : Int32) + xn)), (.ref xa)])) _
    refine st9 _ ?_
    show Steps p.tables e below (T9.setTop (mkL xa m 42 #[.val (.ref xa), .val (.ref ar), .val (.int (0 : Int32)), .val (.int xn)] [])) _
    exact retS0 X9 hx Bd.returns (hb hby d_jdk_2005_method_5_42) hr
  · show Q_wn Z xa ar xn xs ys h0 n0 _ V.heap _
    exact ⟨rfl, N9, ⟨bb, Ex9_xa.mon M1, UnV, F9_buf.mon M1, F9_count.mon M1, A9_bb.mon M1, A9_ar.mon M1, neb, ga, gb⟩⟩
theorem d_jdk_2005_method_9_0 : decode jdk_2005_method_9_code 0 = .ok (.aload_n 0, 1) := by decide +kernel
theorem d_jdk_2005_method_9_1 : decode jdk_2005_method_9_code 1 = .ok (.getfield 33, 3) := by decide +kernel
theorem d_jdk_2005_method_9_4 : decode jdk_2005_method_9_code 4 = .ok (.aload_n 0, 1) := by decide +kernel
theorem d_jdk_2005_method_9_5 : decode jdk_2005_method_9_code 5 = .ok (.getfield 49, 3) := by decide +kernel
theorem d_jdk_2005_method_9_8 : decode jdk_2005_method_9_code 8 = .ok (.invokestatic 43, 3) := by decide +kernel
theorem d_jdk_2005_method_9_11 : decode jdk_2005_method_9_code 11 = .ok (.areturn, 1) := by decide +kernel
theorem pd_5 : parseMethodDescriptor "([BI)[B" = some ⟨[(.array .byte), .int], some (.array .byte)⟩ := by decide +kernel
def Q_tob (Z : State) (xa : Addr) (ar : Addr) (xs : List Int32) (cnt : Int32) (ys : List Int32) (h0 : Heap) (n0 : Nat) (v : Option Value) (h : Heap) (L : List Loc) : Prop := v = some (.ref h0.size) ∧ Fr n0 L ∧ BA Z h h0.size (cpB xs cnt) ∧ BA Z h ar ys
set_option maxRecDepth 65536 in
set_option maxHeartbeats 40000000 in
theorem rm_tob (l : Launch) (Z : State) (a0 : Array Value) (hw : ∀ d ∈ tables_1, d.before a0 Z = true) (ws : List Jvm.Cond) (hmem : Cond.instanceMethod (⟨"java/io/ByteArrayOutputStream", "toByteArray", "()[B"⟩ : MethodName) ∈ ws) (xa : Addr) (ar : Addr) (xs : List Int32) (cnt : Int32) (ys : List Int32) (h0 : Heap) (n0 : Nat) (Z0 : n0 ≤ h0.size) (hS : RO Z n0 h0 xa ar xs cnt ys) (hn0 : ¬ cnt < 0) (hcap : cnt.toNatClampNeg ≤ 36) :
    MetFree l (⟨"java/io/ByteArrayOutputStream", "toByteArray", "()[B"⟩ : MethodName) (head1 (Jvm.Cond.codeSync (⟨"java/io/ByteArrayOutputStream", "toByteArray", "()[B"⟩ : MethodName) jdk_2005_method_9_code 1 (some (.array .byte)) :: ws) ({ frames := 2, cells := 1, slots := 36, locals := 78 } : Room)) (fun a U => a = #[(.ref xa)] ∧ Z.Warmed39 U.vm ∧ U.heap = h0 ∧ ∃ cell : Cell, h0[xa]? = some cell ∧ cell.enterable U.cur) (fun _ _ _ _ _ => True) (fun _ U o U' => ∃ v L, o = .returned v ∧ Q_tob Z xa ar xs cnt ys h0 n0 v U'.heap L ∧ FrameEnd U o U' L ({ frames := 2, cells := 1, slots := 36, locals := 78 } : Room).cells ({ frames := 2, cells := 1, slots := 36, locals := 78 } : Room).slots) := by
  refine MetFree.of_bodySync (plainFor_of_name pn_1) (hisS hmem) (fun _ s _ ⟨h1, _, h2, cl, h3, h4⟩ => ⟨xa, cl, by rw [h1]; rfl, by rw [h2]; exact h3, h4⟩) ?_
  intro p e s0 m args below meth c a' cell s₁ Bd hml0 hP _
  obtain ⟨rfl, hZ0, hh0, -⟩ := hP
  cases Bd.receiver
  have hx := Bd.exec
  have hby := Bd.bytes
  have hml : c.maxLocals = 1 := hml0
  have X0 : Stand p l e ({ frames := 2, cells := 1, slots := 36, locals := 78 } : Room) (s0.setCell xa (cell.withEntry s0.cur)) m #[(.ref xa)] below meth c s₁ [] 0 0 := Stand.of_bodySync Bd
  have hZ : Z.Warmed39 (s0.setCell xa (cell.withEntry s0.cur)).vm := hZ0
  have hown : (s0.setCell xa (cell.withEntry s0.cur)).vm.findClass "java/io/ByteArrayOutputStream" = some m.cls := (findClass_of_methodNamed Bd.named :)
  have M0 : Mon h0 s₁.heap := by rw [← hh0, Bd.state]; exact mon_set Bd.object _
  obtain ⟨hm0, em0⟩ : ∃ z, s₁.heap = z := ⟨_, rfl⟩
  rw [em0] at M0
  have Zm0 : n0 ≤ hm0.size := by rw [M0.size]; exact Z0
  have N0 := Fr.nil n0
  obtain ⟨bb, Ex, Un, Fb, Fc, Ab, Ay, neb, ga, gb⟩ := id hS
  obtain ⟨T1, X1, e1, st1⟩ := getF X0 hx hZ hown (host := "") (Or.inl (hw _ (List.mem_of_getElem? (i := 26) rfl))) Via.refl em0 (Fb.mon M0) (g := (mkL xa m 1 #[.val (.ref xa)] [(.ref xa)])) rfl rfl (hb hby d_jdk_2005_method_9_1)
  obtain ⟨T2, X2, e2, st2⟩ := getF X1 hx hZ hown (host := "") (Or.inl (hw _ (List.mem_of_getElem? (i := 42) rfl))) Via.refl e1 (Fc.mon M0) (g := (mkL xa m 5 #[.val (.ref xa)] [(.ref xa), (.ref bb)])) rfl rfl (hb hby d_jdk_2005_method_9_5)
  obtain ⟨_, _, ⟨T3, L3, k3, n3⟩, -, X3, ⟨Lc3, hQ3, l3, y3, z3⟩, st3⟩ := Jvm.LawKit.callS X2 hx (y := (⟨"java/util/Arrays", "copyOf", "([BI)[B"⟩ : MethodName)) hown (mvT hZ (hw _ (List.mem_of_getElem? (i := 74) rfl))) (mvT hZ (hw _ (List.mem_of_getElem? (i := 75) rfl))) (mvT hZ (hw _ (List.mem_of_getElem? (i := 76) rfl))) (mvT hZ (hw _ (List.mem_of_getElem? (i := 77) rfl))) (by decide) (backOf (W := 2) (rm_cpb l Z a0 hw [] bb cnt xs hm0 n0 Zm0 (Ab.mon M0) hn0 hcap) hZ (hw _ (List.mem_of_getElem? (i := 77) rfl)) (hw _ (List.mem_of_getElem? (i := 76) rfl)) (by decide) (by decide)) (g := (mkL xa m 8 #[.val (.ref xa)] [(.int cnt), (.ref bb)])) rfl (by rw [hml]; rfl) (argsL := [(.ref bb), (.int cnt)]) (rest := []) (lenOf pd_5 rfl) rfl (by show 2 * 1 + _ ≤ _; exact Nat.le_of_eq rfl) (hb hby d_jdk_2005_method_9_8) (fun _ _ => ⟨rfl, e2, (by decide : 0 + 1 ≤ _), (by decide : 0 + 36 ≤ _)⟩)
  dsimp only [Pt.U, Pt.locs, Pt.cells, Pt.slots] at X3 l3 y3 z3 st3 hQ3
  subst l3 y3 z3
  obtain ⟨rfl, N3q, K3, Ao3⟩ := hQ3
  have N3 := Fr.app N0 N3q
  have Ay3 := (Ay.mon M0).keep K3 nin0
  obtain ⟨V, hr, hrun, hended, M1, hWm, hsame⟩ := leaveS X3 Bd.object Bd.enterable Bd.synchronized (v := some (.ref hm0.size)) (fun h => by rw [Bd.returns] at h; cases h)
  have UnV0 := own_unt hsame (a := xa) (by rw [hh0]; exact Un)
  have UnV : Unt V.heap xa := UnV0
  refine ⟨V, _, ?_, hrun, hended, _, _, rfl, ?_, ⟨_, rfl⟩, hWm, hsame.mono (by decide) (by decide)⟩
  · show Steps p.tables e below (s₁.setTop (mkL xa m 0 #[.val (.ref xa)] [])) _
    refine XS.aloadN X0.here hx rfl (hb hby d_jdk_2005_method_9_0) rfl rfl ?_
    show Steps p.tables e below (s₁.setTop (mkL xa m 1 #[.val (.ref xa)] [(.ref xa)])) _
    refine st1 _ ?_
    show Steps p.tables e below (T1.setTop (mkL xa m 4 #[.val (.ref xa)] [(.ref bb)])) _
    refine XS.aloadN X1.here hx rfl (hb hby d_jdk_2005_method_9_4) rfl rfl ?_
    show Steps p.tables e below (T1.setTop (mkL xa m 5 #[.val (.ref xa)] [(.ref xa), (.ref bb)])) _
    refine st2 _ ?_
    show Steps p.tables e below (T2.setTop (mkL xa m 8 #[.val (.ref xa)] [(.int cnt), (.ref bb)])) _
    refine st3 _ ?_
    show Steps p.tables e below (T3.setTop (mkL xa m 11 #[.val (.ref xa)] [(.ref hm0.size)])) _
    exact retS X3 hx Bd.returns rfl (Or.inr (Or.inr (Or.inr (Or.inr ⟨rfl, rfl, rfl⟩)))) (hb hby d_jdk_2005_method_9_11) hr
  · show Q_tob Z xa ar xs cnt ys h0 n0 _ V.heap _
    exact ⟨(by rw [M0.size]), N3, (by rw [← M0.size]; exact Ao3.mon M1), Ay3.mon M1⟩
def gB (xs : List Int32) (cnt : Int32) : List Int32 := if cnt = Int32.ofNat xs.length then cpB xs 128 else xs
def nwF (xs : List Int32) : Int32 := (minL ((2 : Int64) * (Int32.ofNat xs.length).toInt64 + (64 : Int64)) (2147483639 : Int64)).toInt32
theorem nw_32 {xs : List Int32} (h : xs.length = 32) : nwF xs = 128 := by unfold nwF; rw [h]; decide
theorem d_prog_6_method_2_0 : decode prog_6_method_2_code 0 = .ok (.aload_n 0, 1) := by decide +kernel
theorem d_prog_6_method_2_1 : decode prog_6_method_2_code 1 = .ok (.getfield 7, 3) := by decide +kernel
theorem d_prog_6_method_2_4 : decode prog_6_method_2_code 4 = .ok (.aload_n 0, 1) := by decide +kernel
theorem d_prog_6_method_2_5 : decode prog_6_method_2_code 5 = .ok (.getfield 13, 3) := by decide +kernel
theorem d_prog_6_method_2_8 : decode prog_6_method_2_code 8 = .ok (.arraylength, 1) := by decide +kernel
theorem d_prog_6_method_2_9 : decode prog_6_method_2_code 9 = .ok (.if_icmp .ne 35, 3) := by decide +kernel
theorem d_prog_6_method_2_12 : decode prog_6_method_2_code 12 = .ok (.aload_n 0, 1) := by decide +kernel
theorem d_prog_6_method_2_13 : decode prog_6_method_2_code 13 = .ok (.aload_n 0, 1) := by decide +kernel
theorem d_prog_6_method_2_14 : decode prog_6_method_2_code 14 = .ok (.getfield 13, 3) := by decide +kernel
theorem d_prog_6_method_2_17 : decode prog_6_method_2_code 17 = .ok (.ldc2_w 17, 3) := by decide +kernel
theorem d_prog_6_method_2_20 : decode prog_6_method_2_code 20 = .ok (.aload_n 0, 1) := by decide +kernel
theorem d_prog_6_method_2_21 : decode prog_6_method_2_code 21 = .ok (.getfield 13, 3) := by decide +kernel
theorem d_prog_6_method_2_24 : decode prog_6_method_2_code 24 = .ok (.arraylength, 1) := by decide +kernel
theorem d_prog_6_method_2_25 : decode prog_6_method_2_code 25 = .ok (.i2l, 1) := by decide +kernel
theorem d_prog_6_method_2_26 : decode prog_6_method_2_code 26 = .ok (.lmul, 1) := by decide +kernel
theorem d_prog_6_method_2_27 : decode prog_6_method_2_code 27 = .ok (.ldc2_w 19, 3) := by decide +kernel
theorem d_prog_6_method_2_30 : decode prog_6_method_2_code 30 = .ok (.ladd, 1) := by decide +kernel
theorem d_prog_6_method_2_31 : decode prog_6_method_2_code 31 = .ok (.ldc2_w 23, 3) := by decide +kernel
theorem d_prog_6_method_2_34 : decode prog_6_method_2_code 34 = .ok (.invokestatic 25, 3) := by decide +kernel
theorem d_prog_6_method_2_37 : decode prog_6_method_2_code 37 = .ok (.l2i, 1) := by decide +kernel
theorem d_prog_6_method_2_38 : decode prog_6_method_2_code 38 = .ok (.invokestatic 31, 3) := by decide +kernel
theorem d_prog_6_method_2_41 : decode prog_6_method_2_code 41 = .ok (.putfield 13, 3) := by decide +kernel
theorem d_prog_6_method_2_44 : decode prog_6_method_2_code 44 = .ok (.aload_n 0, 1) := by decide +kernel
theorem d_prog_6_method_2_45 : decode prog_6_method_2_code 45 = .ok (.getfield 13, 3) := by decide +kernel
theorem d_prog_6_method_2_48 : decode prog_6_method_2_code 48 = .ok (.aload_n 0, 1) := by decide +kernel
theorem d_prog_6_method_2_49 : decode prog_6_method_2_code 49 = .ok (.dup, 1) := by decide +kernel
theorem d_prog_6_method_2_50 : decode prog_6_method_2_code 50 = .ok (.getfield 7, 3) := by decide +kernel
theorem d_prog_6_method_2_53 : decode prog_6_method_2_code 53 = .ok (.dup_x1, 1) := by decide +kernel
theorem d_prog_6_method_2_54 : decode prog_6_method_2_code 54 = .ok (.iconst 1, 1) := by decide +kernel
theorem d_prog_6_method_2_55 : decode prog_6_method_2_code 55 = .ok (.iadd, 1) := by decide +kernel
theorem d_prog_6_method_2_56 : decode prog_6_method_2_code 56 = .ok (.putfield 7, 3) := by decide +kernel
theorem d_prog_6_method_2_59 : decode prog_6_method_2_code 59 = .ok (.iload_n 1, 1) := by decide +kernel
theorem d_prog_6_method_2_60 : decode prog_6_method_2_code 60 = .ok (.i2b, 1) := by decide +kernel
theorem d_prog_6_method_2_61 : decode prog_6_method_2_code 61 = .ok (.bastore, 1) := by decide +kernel
theorem d_prog_6_method_2_62 : decode prog_6_method_2_code 62 = .ok (.return_, 1) := by decide +kernel
theorem pd_6 : parseMethodDescriptor "(JJ)J" = some ⟨[.long, .long], some .long⟩ := by decide +kernel
theorem ef_w1 (m : MethodId) (xa : Addr) (xb : Int32) : entryFrame m #[(.ref xa), (.int xb)] 2 = mkF m 0 #[.val (.ref xa), .val (.int xb)] [] := by first | (simp [entryFrame, mkF, argsToLocals, Value.category]; done) | rfl
def Q_w1 (Z : State) (xa : Addr) (xb : Int32) (ar : Addr) (xs : List Int32) (cnt : Int32) (ys : List Int32) (h0 : Heap) (n0 : Nat) (v : Option Value) (h : Heap) (L : List Loc) : Prop := v = none ∧ Fr n0 L ∧ RO Z n0 h xa ar (sI (gB xs cnt) cnt (nar .byte (xb.toInt8.toInt32))) (cnt + (1 : Int32)) ys
set_option maxRecDepth 65536 in
set_option maxHeartbeats 40000000 in
theorem rm_w1 (l : Launch) (Z : State) (a0 : Array Value) (hw : ∀ d ∈ tables_1, d.before a0 Z = true) (ws : List Jvm.Cond) (xa : Addr) (xb : Int32) (ar : Addr) (xs : List Int32) (cnt : Int32) (ys : List Int32) (h0 : Heap) (n0 : Nat) (Z0 : n0 ≤ h0.size) (hS : RO Z n0 h0 xa ar xs cnt ys) (hg : cnt = Int32.ofNat xs.length → xs.length = 32) (hin : inR (gB xs cnt) cnt = true) :
    MetFree l (⟨"com/example/driftstone/driftstone/core/RecordOutput", "write", "(I)V"⟩ : MethodName) (head1 (Jvm.Cond.code (⟨"com/example/driftstone/driftstone/core/RecordOutput", "write", "(I)V"⟩ : MethodName) prog_6_method_2_code 2 none :: ws) ({ frames := 2, cells := 1, slots := 128, locals := 77 } : Room)) (fun a U => a = #[(.ref xa), (.int xb)] ∧ Z.Warmed39 U.vm ∧ U.heap = h0) (fun _ _ _ _ _ => True) (fun _ U o U' => ∃ v L, o = .returned v ∧ Q_w1 Z xa xb ar xs cnt ys h0 n0 v U'.heap L ∧ FrameEnd U o U' L ({ frames := 2, cells := 1, slots := 128, locals := 77 } : Room).cells ({ frames := 2, cells := 1, slots := 128, locals := 77 } : Room).slots) := by
  refine MetFree.of_bodySF (plainFor_of_name pn_2) hisR ?_
  intro p e s m args below meth c s₁ Bd hml0 hP hK
  obtain ⟨rfl, hZ, hh⟩ := hP
  have hx := Bd.exec
  have hby := Bd.bytes
  have hml : c.maxLocals = 2 := hml0
  have hown : s.vm.findClass "com/example/driftstone/driftstone/core/RecordOutput" = some m.cls := findClass_of_methodNamed Bd.named
  have hnm := (name_of_methodNamed Bd.named Bd.method).1
  have X0 : Stand p l e ({ frames := 2, cells := 1, slots := 128, locals := 77 } : Room) s m #[(.ref xa), (.int xb)] below meth c s₁ [] 0 0 := Stand.of_body Bd
  have e0 : s₁.heap = h0 := by rw [← hh, Bd.state]; rfl
  have N0 := Fr.nil n0
  have pre0 : ∀ t, Steps p.tables e below (s₁.setTop (mkF m 0 #[.val (.ref xa), .val (.int xb)] [])) t → Steps p.tables e below (s₁.setTop (entryFrame m #[(.ref xa), (.int xb)] 2)) t := fun t k => castTop (ef_w1 m xa xb) k
  obtain ⟨bb, Ex, Un, Fb, Fc, Ab, Ay, neb, ga, gb⟩ := id hS
  by_cases hc9 : cnt = (Int32.ofNat xs.length)
  · have hx32 := hg hc9
    have hnw := nw_32 hx32
    rw [show gB xs cnt = cpB xs 128 from if_pos hc9] at hin
    obtain ⟨T1, X1, e1, st1⟩ := getF X0 hx hZ hown (host := "") (Or.inl (hw _ (List.mem_of_getElem? (i := 58) rfl))) (Via.of (hw _ (List.mem_of_getElem? (i := 59) rfl))) e0 Fc (g := (mkF m 1 #[.val (.ref xa), .val (.int xb)] [(.ref xa)])) rfl rfl (hb hby d_prog_6_method_2_1)
    obtain ⟨T2, X2, e2, st2⟩ := getF X1 hx hZ hown (host := "") (Or.inl (hw _ (List.mem_of_getElem? (i := 60) rfl))) (Via.of (hw _ (List.mem_of_getElem? (i := 61) rfl))) e1 Fb (g := (mkF m 5 #[.val (.ref xa), .val (.int xb)] [(.ref xa), (.int cnt)])) rfl rfl (hb hby d_prog_6_method_2_5)
    obtain ⟨cl3, Ar3, ln3⟩ := Ab.ln
    obtain ⟨T4, X4, e4, st4⟩ := getF X2 hx hZ hown (host := "") (Or.inl (hw _ (List.mem_of_getElem? (i := 60) rfl))) (Via.of (hw _ (List.mem_of_getElem? (i := 61) rfl))) e2 Fb (g := (mkF m 14 #[.val (.ref xa), .val (.int xb)] [(.ref xa), (.ref xa)])) rfl rfl (hb hby d_prog_6_method_2_14)
    obtain ⟨T5, X5, e5, st5⟩ := getF X4 hx hZ hown (host := "") (Or.inl (hw _ (List.mem_of_getElem? (i := 60) rfl))) (Via.of (hw _ (List.mem_of_getElem? (i := 61) rfl))) e4 Fb (g := (mkF m 21 #[.val (.ref xa), .val (.int xb)] [(.ref xa), (.long (2 : Int64)), (.ref bb), (.ref xa)])) rfl rfl (hb hby d_prog_6_method_2_21)
    obtain ⟨cl6, Ar6, ln6⟩ := Ab.ln
    obtain ⟨_, _, ⟨T7, L7, k7, n7⟩, -, X7, ⟨Lc7, hQ7, l7, y7, z7⟩, st7⟩ := Jvm.LawKit.callS X5 hx (y := (⟨"java/lang/Math", "min", "(JJ)J"⟩ : MethodName)) hown (mvT hZ (hw _ (List.mem_of_getElem? (i := 93) rfl))) (mvT hZ (hw _ (List.mem_of_getElem? (i := 94) rfl))) (mvT hZ (hw _ (List.mem_of_getElem? (i := 80) rfl))) (mvT hZ (hw _ (List.mem_of_getElem? (i := 95) rfl))) (by decide) (backOf (W := 2) (rm_minl l Z a0 hw [] (((2 : Int64) * ((Int32.ofNat xs.length).toInt64)) + (64 : Int64)) (2147483639 : Int64) h0 n0 Z0 ) hZ (hw _ (List.mem_of_getElem? (i := 95) rfl)) (hw _ (List.mem_of_getElem? (i := 80) rfl)) (by decide) (by decide)) (g := (mkF m 34 #[.val (.ref xa), .val (.int xb)] [(.long (2147483639 : Int64)), (.long (((2 : Int64) * ((Int32.ofNat xs.length).toInt64)) + (64 : Int64))), (.ref bb), (.ref xa)])) rfl (by rw [hml]; rfl) (argsL := [(.long (((2 : Int64) * ((Int32.ofNat xs.length).toInt64)) + (64 : Int64))), (.long (2147483639 : Int64))]) (rest := [(.ref bb), (.ref xa)]) (lenOf pd_6 rfl) rfl (by show 2 * 0 + _ ≤ _; exact Nat.le_of_eq rfl) (hb hby d_prog_6_method_2_34) (fun _ _ => ⟨rfl, e5, (by decide : 0 + 0 ≤ _), (by decide : 0 + 0 ≤ _)⟩)
    dsimp only [Pt.U, Pt.locs, Pt.cells, Pt.slots] at X7 l7 y7 z7 st7 hQ7
    subst l7 y7 z7
    obtain ⟨rfl, N7q, e7⟩ := hQ7
    have N7 := Fr.app N0 N7q
    obtain ⟨_, _, ⟨T8, L8, k8, n8⟩, -, X8, ⟨Lc8, hQ8, l8, y8, z8⟩, st8⟩ := Jvm.LawKit.callS X7 hx (y := (⟨"java/util/Arrays", "copyOf", "([BI)[B"⟩ : MethodName)) hown (mvT hZ (hw _ (List.mem_of_getElem? (i := 96) rfl))) (mvT hZ (hw _ (List.mem_of_getElem? (i := 75) rfl))) (mvT hZ (hw _ (List.mem_of_getElem? (i := 76) rfl))) (mvT hZ (hw _ (List.mem_of_getElem? (i := 77) rfl))) (by decide) (backOf (W := 1) (rm_cpa l Z a0 hw [] bb (nwF xs) xs h0 n0 Z0 Ab (by rw [hnw]; decide) (by rw [hnw]; decide)) hZ (hw _ (List.mem_of_getElem? (i := 77) rfl)) (hw _ (List.mem_of_getElem? (i := 76) rfl)) (by decide) (by decide)) (g := (mkF m 38 #[.val (.ref xa), .val (.int xb)] [(.int (nwF xs)), (.ref bb), (.ref xa)])) rfl (by rw [hml]; rfl) (argsL := [(.ref bb), (.int (nwF xs))]) (rest := [(.ref xa)]) (lenOf pd_5 rfl) rfl (by show 2 * 0 + _ ≤ _; exact Nat.le_of_eq rfl) (hb hby d_prog_6_method_2_38) (fun _ _ => ⟨rfl, e7, (by decide : 0 + 1 ≤ _), (by decide : 0 + 128 ≤ _)⟩)
    dsimp only [Pt.U, Pt.locs, Pt.cells, Pt.slots] at X8 l8 y8 z8 st8 hQ8
    subst l8 y8 z8
    obtain ⟨rfl, N8q, K8, Ac8⟩ := hQ8
    have N8 := Fr.app N7 N8q
    rw [hnw] at Ac8
    obtain ⟨b8, g8⟩ : ∃ z, z = h0.size := ⟨_, rfl⟩
    rw [← g8] at Ac8 st8
    have g_b8 : n0 ≤ b8 := Nat.le_trans Z0 (Nat.le_of_eq g8.symm)
    have ne_bb_b8 : bb ≠ b8 := Nat.ne_of_lt (Nat.lt_of_lt_of_le Ab.lt (Nat.le_of_eq g8.symm))
    have ne_ar_b8 : ar ≠ b8 := Nat.ne_of_lt (Nat.lt_of_lt_of_le Ay.lt (Nat.le_of_eq g8.symm))
    have F8_buf := Fb.keep K8 nin0
    have F8_count := Fc.keep K8 nin0
    have Ex8_xa := Ex.keep K8
    have A8_bb := Ab.keep K8 nin0
    have A8_ar := Ay.keep K8 nin0
    have Un8_xa := Unt.keep K8 nin0 Un
    obtain ⟨T9, h9, X9, e9, W9, st9⟩ := putF X8 hx hZ hown (host := "") (Or.inl (hw _ (List.mem_of_getElem? (i := 60) rfl))) (Via.of (hw _ (List.mem_of_getElem? (i := 61) rfl))) rfl F8_buf Ex8_xa (Or.inl (hw _ (List.mem_of_getElem? (i := 27) rfl))) (hw _ (List.mem_of_getElem? (i := 3) rfl)) (ty := (.array .byte)) (by decide) rfl rfl (g := (mkF m 41 #[.val (.ref xa), .val (.int xb)] [(.ref b8), (.ref xa)])) rfl rfl (hb hby d_prog_6_method_2_41)
    have F9_buf := F8_buf.same W9
    have F9_count := F8_count.other W9 (Or.inr (slot_ne (Or.inl (hw _ (List.mem_of_getElem? (i := 43) rfl))) (Or.inl (hw _ (List.mem_of_getElem? (i := 27) rfl))) (by decide) (t := .int) (t' := (.array .byte)) (by decide) (by decide)))
    have Ex9_xa := Ex8_xa.wr W9
    have A9_bb := A8_bb.other W9 (Ne.symm (A8_bb.neE Ex8_xa (by decide)))
    have A9_ar := A8_ar.other W9 (Ne.symm (A8_ar.neE Ex8_xa (by decide)))
    have A9_b8 := Ac8.other W9 (Ne.symm (Ac8.neE Ex8_xa (by decide)))
    have Un9_xa := Un8_xa.wr W9
    have N9 := Fr.snoc X9 N8 ga
    obtain ⟨T10, X10, e10, st10⟩ := getF X9 hx hZ hown (host := "") (Or.inl (hw _ (List.mem_of_getElem? (i := 60) rfl))) (Via.of (hw _ (List.mem_of_getElem? (i := 61) rfl))) e9 F9_buf (g := (mkF m 45 #[.val (.ref xa), .val (.int xb)] [(.ref xa)])) rfl rfl (hb hby d_prog_6_method_2_45)
    obtain ⟨T11, X11, e11, st11⟩ := getF X10 hx hZ hown (host := "") (Or.inl (hw _ (List.mem_of_getElem? (i := 58) rfl))) (Via.of (hw _ (List.mem_of_getElem? (i := 59) rfl))) e10 F9_count (g := (mkF m 50 #[.val (.ref xa), .val (.int xb)] [(.ref xa), (.ref xa), (.ref b8)])) rfl rfl (hb hby d_prog_6_method_2_50)
    obtain ⟨T12, h12, X12, e12, W12, st12⟩ := putF X11 hx hZ hown (host := "") (Or.inl (hw _ (List.mem_of_getElem? (i := 58) rfl))) (Via.of (hw _ (List.mem_of_getElem? (i := 59) rfl))) e11 F9_count Ex9_xa (Or.inl (hw _ (List.mem_of_getElem? (i := 43) rfl))) (hw _ (List.mem_of_getElem? (i := 3) rfl)) (ty := .int) (by decide) rfl rfl (g := (mkF m 56 #[.val (.ref xa), .val (.int xb)] [(.int (cnt + (1 : Int32))), (.ref xa), (.int cnt), (.ref b8)])) rfl rfl (hb hby d_prog_6_method_2_56)
    have F12_buf := F9_buf.other W12 (Or.inr (slot_ne (Or.inl (hw _ (List.mem_of_getElem? (i := 27) rfl))) (Or.inl (hw _ (List.mem_of_getElem? (i := 43) rfl))) (by decide) (t := (.array .byte)) (t' := .int) (by decide) (by decide)))
    have F12_count := F9_count.same W12
    have Ex12_xa := Ex9_xa.wr W12
    have A12_bb := A9_bb.other W12 (Ne.symm (A9_bb.neE Ex9_xa (by decide)))
    have A12_ar := A9_ar.other W12 (Ne.symm (A9_ar.neE Ex9_xa (by decide)))
    have A12_b8 := A9_b8.other W12 (Ne.symm (A9_b8.neE Ex9_xa (by decide)))
    have Un12_xa := Un9_xa.wr W12
    have N12 := Fr.snoc X12 N9 ga
    obtain ⟨cl13, Ar13, hin13, -, u13⟩ := A12_b8.rd (j := cnt) hin
    obtain ⟨T13, h13, X13, e13, W13, st13⟩ := stB X12 hx hZ e12 Ar13 (j := cnt) hin13 (g := (mkF m 61 #[.val (.ref xa), .val (.int xb)] [(.int (xb.toInt8.toInt32)), (.int cnt), (.ref b8)])) rfl rfl (hb hby d_prog_6_method_2_61)
    have F13_buf := F12_buf.other W13 (Or.inl (A12_b8.neE Ex12_xa (by decide)))
    have F13_count := F12_count.other W13 (Or.inl (A12_b8.neE Ex12_xa (by decide)))
    have Ex13_xa := Ex12_xa.wr W13
    have A13_bb := A12_bb.other W13 ne_bb_b8
    have A13_ar := A12_ar.other W13 ne_ar_b8
    have A13_b8 := (show BA Z h13 b8 (sI (cpB xs 128) cnt (nar .byte (xb.toInt8.toInt32))) from u13 _ _ W13)
    have Un13_xa := Un12_xa.wr W13
    have N13 := Fr.snoc X13 N12 g_b8
    obtain ⟨fs, hr, hrun, hended, hW, hsame⟩ := X13.leave (v := none) (fun _ => rfl)
    refine ⟨_, _, pre0 _ ?_, hrun, hended, _, _, rfl, ?_, ⟨_, rfl⟩, hW, hsame.mono (by decide) (by decide)⟩
    · show Steps p.tables e below (s₁.setTop (mkF m 0 #[.val (.ref xa), .val (.int xb)] [])) _
      refine XS.aloadN X0.here hx rfl (hb hby d_prog_6_method_2_0) rfl rfl ?_
      show Steps p.tables e below (s₁.setTop (mkF m 1 #[.val (.ref xa), .val (.int xb)] [(.ref xa)])) _
      refine st1 _ ?_
      show Steps p.tables e below (T1.setTop (mkF m 4 #[.val (.ref xa), .val (.int xb)] [(.int cnt)])) _
      refine XS.aloadN X1.here hx rfl (hb hby d_prog_6_method_2_4) rfl rfl ?_
      show Steps p.tables e below (T1.setTop (mkF m 5 #[.val (.ref xa), .val (.int xb)] [(.ref xa), (.int cnt)])) _
      refine st2 _ ?_
      show Steps p.tables e below (T2.setTop (mkF m 8 #[.val (.ref xa), .val (.int xb)] [(.ref bb), (.int cnt)])) _
      refine X2.arraylength hx (by rw [e2]; exact Ar3.1) (State.isArrayOf_alike hZ.alike Ar3.2.1) (g := (mkF m 8 #[.val (.ref xa), .val (.int xb)] [(.ref bb), (.int cnt)])) rfl rfl (hb hby d_prog_6_method_2_8) _ ?_
      rw [ln3]
      show Steps p.tables e below (T2.setTop (mkF m 9 #[.val (.ref xa), .val (.int xb)] [(.int (Int32.ofNat xs.length)), (.int cnt)])) _
      refine XS.icmpNo X2.here hx rfl (hb hby d_prog_6_method_2_9) rfl (teq hc9).2 ?_
      show Steps p.tables e below (T2.setTop (mkF m 12 #[.val (.ref xa), .val (.int xb)] [])) _
      refine XS.aloadN X2.here hx rfl (hb hby d_prog_6_method_2_12) rfl rfl ?_
      show Steps p.tables e below (T2.setTop (mkF m 13 #[.val (.ref xa), .val (.int xb)] [(.ref xa)])) _
      refine XS.aloadN X2.here hx rfl (hb hby d_prog_6_method_2_13) rfl rfl ?_
      show Steps p.tables e below (T2.setTop (mkF m 14 #[.val (.ref xa), .val (.int xb)] [(.ref xa), (.ref xa)])) _
      refine st4 _ ?_
      show Steps p.tables e below (T4.setTop (mkF m 17 #[.val (.ref xa), .val (.int xb)] [(.ref bb), (.ref xa)])) _
      refine X4.ldc2Long hx hown (mvT hZ (hw _ (List.mem_of_getElem? (i := 90) rfl))) (g := (mkF m 17 #[.val (.ref xa), .val (.int xb)] [(.ref bb), (.ref xa)])) rfl (hb hby d_prog_6_method_2_17) _ ?_
      show Steps p.tables e below (T4.setTop (mkF m 20 #[.val (.ref xa), .val (.int xb)] [(.long (2 : Int64)), (.ref bb), (.ref xa)])) _
      refine XS.aloadN X4.here hx rfl (hb hby d_prog_6_method_2_20) rfl rfl ?_
      show Steps p.tables e below (T4.setTop (mkF m 21 #[.val (.ref xa), .val (.int xb)] [(.ref xa), (.long (2 : Int64)), (.ref bb), (.ref xa)])) _
      refine st5 _ ?_
      show Steps p.tables e below (T5.setTop (mkF m 24 #[.val (.ref xa), .val (.int xb)] [(.ref bb), (.long (2 : Int64)), (.ref bb), (.ref xa)])) _
      refine X5.arraylength hx (by rw [e5]; exact Ar6.1) (State.isArrayOf_alike hZ.alike Ar6.2.1) (g := (mkF m 24 #[.val (.ref xa), .val (.int xb)] [(.ref bb), (.long (2 : Int64)), (.ref bb), (.ref xa)])) rfl rfl (hb hby d_prog_6_method_2_24) _ ?_
      rw [ln6]
      show Steps p.tables e below (T5.setTop (mkF m 25 #[.val (.ref xa), .val (.int xb)] [(.int (Int32.ofNat xs.length)), (.long (2 : Int64)), (.ref bb), (.ref xa)])) _
      refine XS.i2l X5.here hx rfl (hb hby d_prog_6_method_2_25) rfl ?_
      show Steps p.tables e below (T5.setTop (mkF m 26 #[.val (.ref xa), .val (.int xb)] [(.long ((Int32.ofNat xs.length).toInt64)), (.long (2 : Int64)), (.ref bb), (.ref xa)])) _
      refine XS.lmul X5.here hx rfl (hb hby d_prog_6_method_2_26) rfl ?_
      show Steps p.tables e below (T5.setTop (mkF m 27 #[.val (.ref xa), .val (.int xb)] [(.long ((2 : Int64) * ((Int32.ofNat xs.length).toInt64))), (.ref bb), (.ref xa)])) _
      refine X5.ldc2Long hx hown (mvT hZ (hw _ (List.mem_of_getElem? (i := 91) rfl))) (g := (mkF m 27 #[.val (.ref xa), .val (.int xb)] [(.long ((2 : Int64) * ((Int32.ofNat xs.length).toInt64))), (.ref bb), (.ref xa)])) rfl (hb hby d_prog_6_method_2_27) _ ?_
      show Steps p.tables e below (T5.setTop (mkF m 30 #[.val (.ref xa), .val (.int xb)] [(.long (64 : Int64)), (.long ((2 : Int64) * ((Int32.ofNat xs.length).toInt64))), (.ref bb), (.ref xa)])) _
      refine XS.ladd X5.here hx rfl (hb hby d_prog_6_method_2_30) rfl ?_
      show Steps p.tables e below (T5.setTop (mkF m 31 #[.val (.ref xa), .val (.int xb)] [(.long (((2 : Int64) * ((Int32.ofNat xs.length).toInt64)) + (64 : Int64))), (.ref bb), (.ref xa)])) _
      refine X5.ldc2Long hx hown (mvT hZ (hw _ (List.mem_of_getElem? (i := 92) rfl))) (g := (mkF m 31 #[.val (.ref xa), .val (.int xb)] [(.long (((2 : Int64) * ((Int32.ofNat xs.length).toInt64)) + (64 : Int64))), (.ref bb), (.ref xa)])) rfl (hb hby d_prog_6_method_2_31) _ ?_
      show Steps p.tables e below (T5.setTop (mkF m 34 #[.val (.ref xa), .val (.int xb)] [(.long (2147483639 : Int64)), (.long (((2 : Int64) * ((Int32.ofNat xs.length).toInt64)) + (64 : Int64))), (.ref bb), (.ref xa)])) _
      refine st7 _ ?_
      show Steps p.tables e below (T7.setTop (mkF m 37 #[.val (.ref xa), .val (.int xb)] [(.long (minL (((2 : Int64) * ((Int32.ofNat xs.length).toInt64)) + (64 : Int64)) (2147483639 : Int64))), (.ref bb), (.ref xa)])) _
      refine XS.l2i X7.here hx rfl (hb hby d_prog_6_method_2_37) rfl ?_
      show Steps p.tables e below (T7.setTop (mkF m 38 #[.val (.ref xa), .val (.int xb)] [(.int (nwF xs)), (.ref bb), (.ref xa)])) _
      refine st8 _ ?_
      show Steps p.tables e below (T8.setTop (mkF m 41 #[.val (.ref xa), .val (.int xb)] [(.ref b8), (.ref xa)])) _
      refine st9 _ ?_
      show Steps p.tables e below (T9.setTop (mkF m 44 #[.val (.ref xa), .val (.int xb)] [])) _
      refine XS.aloadN X9.here hx rfl (hb hby d_prog_6_method_2_44) rfl rfl ?_
      show Steps p.tables e below (T9.setTop (mkF m 45 #[.val (.ref xa), .val (.int xb)] [(.ref xa)])) _
      refine st10 _ ?_
      show Steps p.tables e below (T10.setTop (mkF m 48 #[.val (.ref xa), .val (.int xb)] [(.ref b8)])) _
      refine XS.aloadN X10.here hx rfl (hb hby d_prog_6_method_2_48) rfl rfl ?_
      show Steps p.tables e below (T10.setTop (mkF m 49 #[.val (.ref xa), .val (.int xb)] [(.ref xa), (.ref b8)])) _
      refine XS.dup X10.here hx rfl (hb hby d_prog_6_method_2_49) rfl rfl ?_
      show Steps p.tables e below (T10.setTop (mkF m 50 #[.val (.ref xa), .val (.int xb)] [(.ref xa), (.ref xa), (.ref b8)])) _
      refine st11 _ ?_
      show Steps p.tables e below (T11.setTop (mkF m 53 #[.val (.ref xa), .val (.int xb)] [(.int cnt), (.ref xa), (.ref b8)])) _
      refine XS.dupX1 X11.here hx rfl (hb hby d_prog_6_method_2_53) rfl rfl rfl ?_
      show Steps p.tables e below (T11.setTop (mkF m 54 #[.val (.ref xa), .val (.int xb)] [(.int cnt), (.ref xa), (.int cnt), (.ref b8)])) _
      refine XS.iconst X11.here hx rfl (hb hby d_prog_6_method_2_54) ?_
      show Steps p.tables e below (T11.setTop (mkF m 55 #[.val (.ref xa), .val (.int xb)] [(.int (1 : Int32)), (.int cnt), (.ref xa), (.int cnt), (.ref b8)])) _
      refine XS.iadd X11.here hx rfl (hb hby d_prog_6_method_2_55) rfl ?_
      show Steps p.tables e below (T11.setTop (mkF m 56 #[.val (.ref xa), .val (.int xb)] [(.int (cnt + (1 : Int32))), (.ref xa), (.int cnt), (.ref b8)])) _
      refine st12 _ ?_
      show Steps p.tables e below (T12.setTop (mkF m 59 #[.val (.ref xa), .val (.int xb)] [(.int cnt), (.ref b8)])) _
      refine XS.iloadN X12.here hx rfl (hb hby d_prog_6_method_2_59) rfl ?_
      show Steps p.tables e below (T12.setTop (mkF m 60 #[.val (.ref xa), .val (.int xb)] [(.int xb), (.int cnt), (.ref b8)])) _
      refine XS.i2b X12.here hx rfl (hb hby d_prog_6_method_2_60) rfl ?_
      show Steps p.tables e below (T12.setTop (mkF m 61 #[.val (.ref xa), .val (.int xb)] [(.int (xb.toInt8.toInt32)), (.int cnt), (.ref b8)])) _
      refine st13 _ ?_
      show Steps p.tables e below (T13.setTop (mkF m 62 #[.val (.ref xa), .val (.int xb)] [])) _
      exact X13.returnOut hx Bd.returns (hb hby d_prog_6_method_2_62) hr
    · show Q_w1 Z xa xb ar xs cnt ys h0 n0 _ T13.heap _
      rw [e13]
      exact ⟨rfl, N13, (by rw [show gB xs cnt = cpB xs 128 from if_pos hc9]; exact ⟨b8, Ex13_xa, Un13_xa, F13_buf, F13_count, A13_b8, A13_ar, (Ne.symm ne_ar_b8), ga, g_b8⟩)⟩
  · rw [show gB xs cnt = xs from if_neg hc9] at hin
    obtain ⟨T14, X14, e14, st14⟩ := getF X0 hx hZ hown (host := "") (Or.inl (hw _ (List.mem_of_getElem? (i := 58) rfl))) (Via.of (hw _ (List.mem_of_getElem? (i := 59) rfl))) e0 Fc (g := (mkF m 1 #[.val (.ref xa), .val (.int xb)] [(.ref xa)])) rfl rfl (hb hby d_prog_6_method_2_1)
    obtain ⟨T15, X15, e15, st15⟩ := getF X14 hx hZ hown (host := "") (Or.inl (hw _ (List.mem_of_getElem? (i := 60) rfl))) (Via.of (hw _ (List.mem_of_getElem? (i := 61) rfl))) e14 Fb (g := (mkF m 5 #[.val (.ref xa), .val (.int xb)] [(.ref xa), (.int cnt)])) rfl rfl (hb hby d_prog_6_method_2_5)
    obtain ⟨cl16, Ar16, ln16⟩ := Ab.ln
    obtain ⟨T17, X17, e17, st17⟩ := getF X15 hx hZ hown (host := "") (Or.inl (hw _ (List.mem_of_getElem? (i := 60) rfl))) (Via.of (hw _ (List.mem_of_getElem? (i := 61) rfl))) e15 Fb (g := (mkF m 45 #[.val (.ref xa), .val (.int xb)] [(.ref xa)])) rfl rfl (hb hby d_prog_6_method_2_45)
    obtain ⟨T18, X18, e18, st18⟩ := getF X17 hx hZ hown (host := "") (Or.inl (hw _ (List.mem_of_getElem? (i := 58) rfl))) (Via.of (hw _ (List.mem_of_getElem? (i := 59) rfl))) e17 Fc (g := (mkF m 50 #[.val (.ref xa), .val (.int xb)] [(.ref xa), (.ref xa), (.ref bb)])) rfl rfl (hb hby d_prog_6_method_2_50)
    obtain ⟨T19, h19, X19, e19, W19, st19⟩ := putF X18 hx hZ hown (host := "") (Or.inl (hw _ (List.mem_of_getElem? (i := 58) rfl))) (Via.of (hw _ (List.mem_of_getElem? (i := 59) rfl))) e18 Fc Ex (Or.inl (hw _ (List.mem_of_getElem? (i := 43) rfl))) (hw _ (List.mem_of_getElem? (i := 3) rfl)) (ty := .int) (by decide) rfl rfl (g := (mkF m 56 #[.val (.ref xa), .val (.int xb)] [(.int (cnt + (1 : Int32))), (.ref xa), (.int cnt), (.ref bb)])) rfl rfl (hb hby d_prog_6_method_2_56)
    have F19_buf := Fb.other W19 (Or.inr (slot_ne (Or.inl (hw _ (List.mem_of_getElem? (i := 27) rfl))) (Or.inl (hw _ (List.mem_of_getElem? (i := 43) rfl))) (by decide) (t := (.array .byte)) (t' := .int) (by decide) (by decide)))
    have F19_count := Fc.same W19
    have Ex19_xa := Ex.wr W19
    have A19_bb := Ab.other W19 (Ne.symm (Ab.neE Ex (by decide)))
    have A19_ar := Ay.other W19 (Ne.symm (Ay.neE Ex (by decide)))
    have Un19_xa := Un.wr W19
    have N19 := Fr.snoc X19 N0 ga
    obtain ⟨cl20, Ar20, hin20, -, u20⟩ := A19_bb.rd (j := cnt) hin
    obtain ⟨T20, h20, X20, e20, W20, st20⟩ := stB X19 hx hZ e19 Ar20 (j := cnt) hin20 (g := (mkF m 61 #[.val (.ref xa), .val (.int xb)] [(.int (xb.toInt8.toInt32)), (.int cnt), (.ref bb)])) rfl rfl (hb hby d_prog_6_method_2_61)
    have F20_buf := F19_buf.other W20 (Or.inl (A19_bb.neE Ex19_xa (by decide)))
    have F20_count := F19_count.other W20 (Or.inl (A19_bb.neE Ex19_xa (by decide)))
    have Ex20_xa := Ex19_xa.wr W20
    have A20_bb := (show BA Z h20 bb (sI xs cnt (nar .byte (xb.toInt8.toInt32))) from u20 _ _ W20)
    have A20_ar := A19_ar.other W20 (Ne.symm neb)
    have Un20_xa := Un19_xa.wr W20
    have N20 := Fr.snoc X20 N19 gb
    obtain ⟨fs, hr, hrun, hended, hW, hsame⟩ := X20.leave (v := none) (fun _ => rfl)
    refine ⟨_, _, pre0 _ ?_, hrun, hended, _, _, rfl, ?_, ⟨_, rfl⟩, hW, hsame.mono (by decide) (by decide)⟩
    · show Steps p.tables e below (s₁.setTop (mkF m 0 #[.val (.ref xa), .val (.int xb)] [])) _
      refine XS.aloadN X0.here hx rfl (hb hby d_prog_6_method_2_0) rfl rfl ?_
      show Steps p.tables e below (s₁.setTop (mkF m 1 #[.val (.ref xa), .val (.int xb)] [(.ref xa)])) _
      refine st14 _ ?_
      show Steps p.tables e below (T14.setTop (mkF m 4 #[.val (.ref xa), .val (.int xb)] [(.int cnt)])) _
      refine XS.aloadN X14.here hx rfl (hb hby d_prog_6_method_2_4) rfl rfl ?_
      show Steps p.tables e below (T14.setTop (mkF m 5 #[.val (.ref xa), .val (.int xb)] [(.ref xa), (.int cnt)])) _
      refine st15 _ ?_
      show Steps p.tables e below (T15.setTop (mkF m 8 #[.val (.ref xa), .val (.int xb)] [(.ref bb), (.int cnt)])) _
      refine X15.arraylength hx (by rw [e15]; exact Ar16.1) (State.isArrayOf_alike hZ.alike Ar16.2.1) (g := (mkF m 8 #[.val (.ref xa), .val (.int xb)] [(.ref bb), (.int cnt)])) rfl rfl (hb hby d_prog_6_method_2_8) _ ?_
      rw [ln16]
      show Steps p.tables e below (T15.setTop (mkF m 9 #[.val (.ref xa), .val (.int xb)] [(.int (Int32.ofNat xs.length)), (.int cnt)])) _
      refine XS.icmpYes X15.here hx rfl (pc0 := 9) (pc' := 44) rfl (hb hby d_prog_6_method_2_9) rfl (feq hc9).2 (by decide) (by decide) ?_
      show Steps p.tables e below (T15.setTop (mkF m 44 #[.val (.ref xa), .val (.int xb)] [])) _
      refine XS.aloadN X15.here hx rfl (hb hby d_prog_6_method_2_44) rfl rfl ?_
      show Steps p.tables e below (T15.setTop (mkF m 45 #[.val (.ref xa), .val (.int xb)] [(.ref xa)])) _
      refine st17 _ ?_
      show Steps p.tables e below (T17.setTop (mkF m 48 #[.val (.ref xa), .val (.int xb)] [(.ref bb)])) _
      refine XS.aloadN X17.here hx rfl (hb hby d_prog_6_method_2_48) rfl rfl ?_
      show Steps p.tables e below (T17.setTop (mkF m 49 #[.val (.ref xa), .val (.int xb)] [(.ref xa), (.ref bb)])) _
      refine XS.dup X17.here hx rfl (hb hby d_prog_6_method_2_49) rfl rfl ?_
      show Steps p.tables e below (T17.setTop (mkF m 50 #[.val (.ref xa), .val (.int xb)] [(.ref xa), (.ref xa), (.ref bb)])) _
      refine st18 _ ?_
      show Steps p.tables e below (T18.setTop (mkF m 53 #[.val (.ref xa), .val (.int xb)] [(.int cnt), (.ref xa), (.ref bb)])) _
      refine XS.dupX1 X18.here hx rfl (hb hby d_prog_6_method_2_53) rfl rfl rfl ?_
      show Steps p.tables e below (T18.setTop (mkF m 54 #[.val (.ref xa), .val (.int xb)] [(.int cnt), (.ref xa), (.int cnt), (.ref bb)])) _
      refine XS.iconst X18.here hx rfl (hb hby d_prog_6_method_2_54) ?_
      show Steps p.tables e below (T18.setTop (mkF m 55 #[.val (.ref xa), .val (.int xb)] [(.int (1 : Int32)), (.int cnt), (.ref xa), (.int cnt), (.ref bb)])) _
      refine XS.iadd X18.here hx rfl (hb hby d_prog_6_method_2_55) rfl ?_
      show Steps p.tables e below (T18.setTop (mkF m 56 #[.val (.ref xa), .val (.int xb)] [(.int (cnt + (1 : Int32))), (.ref xa), (.int cnt), (.ref bb)])) _
      refine st19 _ ?_
      show Steps p.tables e below (T19.setTop (mkF m 59 #[.val (.ref xa), .val (.int xb)] [(.int cnt), (.ref bb)])) _
      refine XS.iloadN X19.here hx rfl (hb hby d_prog_6_method_2_59) rfl ?_
      show Steps p.tables e below (T19.setTop (mkF m 60 #[.val (.ref xa), .val (.int xb)] [(.int xb), (.int cnt), (.ref bb)])) _
      refine XS.i2b X19.here hx rfl (hb hby d_prog_6_method_2_60) rfl ?_
      show Steps p.tables e below (T19.setTop (mkF m 61 #[.val (.ref xa), .val (.int xb)] [(.int (xb.toInt8.toInt32)), (.int cnt), (.ref bb)])) _
      refine st20 _ ?_
      show Steps p.tables e below (T20.setTop (mkF m 62 #[.val (.ref xa), .val (.int xb)] [])) _
      exact X20.returnOut hx Bd.returns (hb hby d_prog_6_method_2_62) hr
    · show Q_w1 Z xa xb ar xs cnt ys h0 n0 _ T20.heap _
      rw [e20]
      exact ⟨rfl, N20, (by rw [show gB xs cnt = xs from if_neg hc9]; exact ⟨bb, Ex20_xa, Un20_xa, F20_buf, F20_count, A20_bb, A20_ar, neb, ga, gb⟩)⟩
def expF (xi xk : Int32) (ys : List Int32) (x1 x2 x3 : Int32) : Int32 := if xi < xk then gI ys xi else if xi = xk then x1.toInt8.toInt32 else if xi = xk + (1 : Int32) then x2.toInt8.toInt32 else x3.toInt8.toInt32
def atF (zs : List Int32) (xi xk : Int32) (ys : List Int32) (x1 x2 x3 : Int32) : Int32 := if xi < 0 then 1 else if xi < Int32.ofNat zs.length then (if gI zs xi = expF xi xk ys x1 x2 x3 then 1 else 0) else 1
theorem own_inr {zs : List Int32} {i : Int32} (l : zs.length ≤ 1000) (h0 : ¬ i < 0) (h1 : i < Int32.ofNat zs.length) : inR zs i = true := by
  rw [inR_iff]; refine ⟨h0, ?_⟩
  rw [Int32.lt_iff_toInt_lt, own_len l, own_int h0] at h1; omega
theorem d_method_2_0 : decode method_2_code 0 = .ok (.iload_n 0, 1) := by decide +kernel
theorem d_method_2_1 : decode method_2_code 1 = .ok (.iload_n 1, 1) := by decide +kernel
theorem d_method_2_2 : decode method_2_code 2 = .ok (.if_icmp .ge 7, 3) := by decide +kernel
theorem d_method_2_5 : decode method_2_code 5 = .ok (.aload_n 2, 1) := by decide +kernel
theorem d_method_2_6 : decode method_2_code 6 = .ok (.iload_n 0, 1) := by decide +kernel
theorem d_method_2_7 : decode method_2_code 7 = .ok (.baload, 1) := by decide +kernel
theorem d_method_2_8 : decode method_2_code 8 = .ok (.ireturn, 1) := by decide +kernel
theorem d_method_2_9 : decode method_2_code 9 = .ok (.iload_n 0, 1) := by decide +kernel
theorem d_method_2_10 : decode method_2_code 10 = .ok (.iload_n 1, 1) := by decide +kernel
theorem d_method_2_11 : decode method_2_code 11 = .ok (.if_icmp .ne 6, 3) := by decide +kernel
theorem d_method_2_14 : decode method_2_code 14 = .ok (.iload_n 3, 1) := by decide +kernel
theorem d_method_2_15 : decode method_2_code 15 = .ok (.i2b, 1) := by decide +kernel
theorem d_method_2_16 : decode method_2_code 16 = .ok (.ireturn, 1) := by decide +kernel
theorem d_method_2_17 : decode method_2_code 17 = .ok (.iload_n 0, 1) := by decide +kernel
theorem d_method_2_18 : decode method_2_code 18 = .ok (.iload_n 1, 1) := by decide +kernel
theorem d_method_2_19 : decode method_2_code 19 = .ok (.iconst 1, 1) := by decide +kernel
theorem d_method_2_20 : decode method_2_code 20 = .ok (.iadd, 1) := by decide +kernel
theorem d_method_2_21 : decode method_2_code 21 = .ok (.if_icmp .ne 7, 3) := by decide +kernel
theorem d_method_2_24 : decode method_2_code 24 = .ok (.iload 4, 2) := by decide +kernel
theorem d_method_2_26 : decode method_2_code 26 = .ok (.i2b, 1) := by decide +kernel
theorem d_method_2_27 : decode method_2_code 27 = .ok (.ireturn, 1) := by decide +kernel
theorem d_method_2_28 : decode method_2_code 28 = .ok (.iload 5, 2) := by decide +kernel
theorem d_method_2_30 : decode method_2_code 30 = .ok (.i2b, 1) := by decide +kernel
theorem d_method_2_31 : decode method_2_code 31 = .ok (.ireturn, 1) := by decide +kernel
theorem pn_6 : plainName "com/example/driftstone/driftstone/core/RecordOutputWritePinLaw" = true := by first | (simp [plainName, overriddenIn]; done) | decide +kernel
theorem ef_exp (m : MethodId) (xi : Int32) (xk : Int32) (xr : Addr) (x1 : Int32) (x2 : Int32) (x3 : Int32) : entryFrame m #[(.int xi), (.int xk), (.ref xr), (.int x1), (.int x2), (.int x3)] 6 = mkF m 0 #[.val (.int xi), .val (.int xk), .val (.ref xr), .val (.int x1), .val (.int x2), .val (.int x3)] [] := by first | (simp [entryFrame, mkF, argsToLocals, Value.category]; done) | rfl
def Q_exp (Z : State) (xi : Int32) (xk : Int32) (xr : Addr) (x1 : Int32) (x2 : Int32) (x3 : Int32) (ys : List Int32) (h0 : Heap) (n0 : Nat) (v : Option Value) (h : Heap) (L : List Loc) : Prop := v = some (.int (expF xi xk ys x1 x2 x3)) ∧ Fr n0 L ∧ h = h0
set_option maxRecDepth 65536 in
set_option maxHeartbeats 40000000 in
theorem rm_exp (l : Launch) (Z : State) (a0 : Array Value) (hw : ∀ d ∈ tables_1, d.before a0 Z = true) (ws : List Jvm.Cond) (xi : Int32) (xk : Int32) (xr : Addr) (x1 : Int32) (x2 : Int32) (x3 : Int32) (ys : List Int32) (h0 : Heap) (n0 : Nat) (Z0 : n0 ≤ h0.size) (Ay : BA Z h0 xr ys) (hin : xi < xk → inR ys xi = true) :
    MetFree l (⟨"com/example/driftstone/driftstone/core/RecordOutputWritePinLaw", "expected", "(II[BIII)I"⟩ : MethodName) (head1 (Jvm.Cond.code (⟨"com/example/driftstone/driftstone/core/RecordOutputWritePinLaw", "expected", "(II[BIII)I"⟩ : MethodName) method_2_code 6 (some .int) :: ws) ({ frames := 0, cells := 0, slots := 0, locals := 0 } : Room)) (fun a U => a = #[(.int xi), (.int xk), (.ref xr), (.int x1), (.int x2), (.int x3)] ∧ Z.Warmed39 U.vm ∧ U.heap = h0) (fun _ _ _ _ _ => True) (fun _ U o U' => ∃ v L, o = .returned v ∧ Q_exp Z xi xk xr x1 x2 x3 ys h0 n0 v U'.heap L ∧ FrameEnd U o U' L ({ frames := 0, cells := 0, slots := 0, locals := 0 } : Room).cells ({ frames := 0, cells := 0, slots := 0, locals := 0 } : Room).slots) := by
  refine MetFree.of_bodySF (plainFor_of_name pn_6) hisR ?_
  intro p e s m args below meth c s₁ Bd hml0 hP hK
  obtain ⟨rfl, hZ, hh⟩ := hP
  have hx := Bd.exec
  have hby := Bd.bytes
  have hml : c.maxLocals = 6 := hml0
  have hown : s.vm.findClass "com/example/driftstone/driftstone/core/RecordOutputWritePinLaw" = some m.cls := findClass_of_methodNamed Bd.named
  have hnm := (name_of_methodNamed Bd.named Bd.method).1
  have X0 : Stand p l e ({ frames := 0, cells := 0, slots := 0, locals := 0 } : Room) s m #[(.int xi), (.int xk), (.ref xr), (.int x1), (.int x2), (.int x3)] below meth c s₁ [] 0 0 := Stand.of_body Bd
  have e0 : s₁.heap = h0 := by rw [← hh, Bd.state]; rfl
  have N0 := Fr.nil n0
  have pre0 : ∀ t, Steps p.tables e below (s₁.setTop (mkF m 0 #[.val (.int xi), .val (.int xk), .val (.ref xr), .val (.int x1), .val (.int x2), .val (.int x3)] [])) t → Steps p.tables e below (s₁.setTop (entryFrame m #[(.int xi), (.int xk), (.ref xr), (.int x1), (.int x2), (.int x3)] 6)) t := fun t k => castTop (ef_exp m xi xk xr x1 x2 x3) k
  by_cases hc2 : xi < xk
  · obtain ⟨cl1, Ar1, hin1, hat1, -⟩ := Ay.rd (j := xi) (hin hc2)
    obtain ⟨fs, hr, hrun, hended, hW, hsame⟩ := X0.leave (v := some (.int (expF xi xk ys x1 x2 x3))) (fun h => by rw [Bd.returns] at h; cases h)
    refine ⟨_, _, pre0 _ ?_, hrun, hended, _, _, rfl, ?_, ⟨_, rfl⟩, hW, hsame.mono (by decide) (by decide)⟩
    · show Steps p.tables e below (s₁.setTop (mkF m 0 #[.val (.int xi), .val (.int xk), .val (.ref xr), .val (.int x1), .val (.int x2), .val (.int x3)] [])) _
      refine XS.iloadN X0.here hx rfl (hb hby d_method_2_0) rfl ?_
      show Steps p.tables e below (s₁.setTop (mkF m 1 #[.val (.int xi), .val (.int xk), .val (.ref xr), .val (.int x1), .val (.int x2), .val (.int x3)] [(.int xi)])) _
      refine XS.iloadN X0.here hx rfl (hb hby d_method_2_1) rfl ?_
      show Steps p.tables e below (s₁.setTop (mkF m 2 #[.val (.int xi), .val (.int xk), .val (.ref xr), .val (.int x1), .val (.int x2), .val (.int x3)] [(.int xk), (.int xi)])) _
      refine XS.icmpNo X0.here hx rfl (hb hby d_method_2_2) rfl (tlt hc2).2.1 ?_
      show Steps p.tables e below (s₁.setTop (mkF m 5 #[.val (.int xi), .val (.int xk), .val (.ref xr), .val (.int x1), .val (.int x2), .val (.int x3)] [])) _
      refine XS.aloadN X0.here hx rfl (hb hby d_method_2_5) rfl rfl ?_
      show Steps p.tables e below (s₁.setTop (mkF m 6 #[.val (.int xi), .val (.int xk), .val (.ref xr), .val (.int x1), .val (.int x2), .val (.int x3)] [(.ref xr)])) _
      refine XS.iloadN X0.here hx rfl (hb hby d_method_2_6) rfl ?_
      show Steps p.tables e below (s₁.setTop (mkF m 7 #[.val (.int xi), .val (.int xk), .val (.ref xr), .val (.int x1), .val (.int x2), .val (.int x3)] [(.int xi), (.ref xr)])) _
      refine X0.baloadBytes hx (j := xi) (v := (.int (gI ys xi))) (by rw [e0]; exact Ar1.1) (State.isArrayOf_alike hZ.alike Ar1.2.1) Ar1.2.2 hin1 hat1 (g := (mkF m 7 #[.val (.int xi), .val (.int xk), .val (.ref xr), .val (.int x1), .val (.int x2), .val (.int x3)] [(.int xi), (.ref xr)])) rfl rfl (hb hby d_method_2_7) _ ?_
      show Steps p.tables e below (s₁.setTop (mkF m 8 #[.val (.int xi), .val (.int xk), .val (.ref xr), .val (.int x1), .val (.int x2), .val (.int x3)] [(.int (gI ys xi))])) _
      exact retI X0 hx Bd.returns (hb hby d_method_2_8) (by rw [show (gI ys xi) = (expF xi xk ys x1 x2 x3) from by rw [expF, if_pos hc2]]; exact hr)
    · show Q_exp Z xi xk xr x1 x2 x3 ys h0 n0 _ s₁.heap _
      rw [e0]
      exact ⟨rfl, N0, rfl⟩
  · obtain ⟨fs, hr, hrun, hended, hW, hsame⟩ := X0.leave (v := some (.int (expF xi xk ys x1 x2 x3))) (fun h => by rw [Bd.returns] at h; cases h)
    refine ⟨_, _, pre0 _ ?_, hrun, hended, _, _, rfl, ?_, ⟨_, rfl⟩, hW, hsame.mono (by decide) (by decide)⟩
    · show Steps p.tables e below (s₁.setTop (mkF m 0 #[.val (.int xi), .val (.int xk), .val (.ref xr), .val (.int x1), .val (.int x2), .val (.int x3)] [])) _
      refine XS.iloadN X0.here hx rfl (hb hby d_method_2_0) rfl ?_
      show Steps p.tables e below (s₁.setTop (mkF m 1 #[.val (.int xi), .val (.int xk), .val (.ref xr), .val (.int x1), .val (.int x2), .val (.int x3)] [(.int xi)])) _
      refine XS.iloadN X0.here hx rfl (hb hby d_method_2_1) rfl ?_
      show Steps p.tables e below (s₁.setTop (mkF m 2 #[.val (.int xi), .val (.int xk), .val (.ref xr), .val (.int x1), .val (.int x2), .val (.int x3)] [(.int xk), (.int xi)])) _
      refine XS.icmpYes X0.here hx rfl (pc0 := 2) (pc' := 9) rfl (hb hby d_method_2_2) rfl (flt hc2).2.1 (by decide) (by decide) ?_
      show Steps p.tables e below (s₁.setTop (mkF m 9 #[.val (.int xi), .val (.int xk), .val (.ref xr), .val (.int x1), .val (.int x2), .val (.int x3)] [])) _
      refine XS.iloadN X0.here hx rfl (hb hby d_method_2_9) rfl ?_
      show Steps p.tables e below (s₁.setTop (mkF m 10 #[.val (.int xi), .val (.int xk), .val (.ref xr), .val (.int x1), .val (.int x2), .val (.int x3)] [(.int xi)])) _
      refine XS.iloadN X0.here hx rfl (hb hby d_method_2_10) rfl ?_
      show Steps p.tables e below (s₁.setTop (mkF m 11 #[.val (.int xi), .val (.int xk), .val (.ref xr), .val (.int x1), .val (.int x2), .val (.int x3)] [(.int xk), (.int xi)])) _
      by_cases h11 : xi = xk
      · refine XS.icmpNo X0.here hx rfl (hb hby d_method_2_11) rfl (teq h11).2 ?_
        show Steps p.tables e below (s₁.setTop (mkF m 14 #[.val (.int xi), .val (.int xk), .val (.ref xr), .val (.int x1), .val (.int x2), .val (.int x3)] [])) _
        refine XS.iloadN X0.here hx rfl (hb hby d_method_2_14) rfl ?_
        show Steps p.tables e below (s₁.setTop (mkF m 15 #[.val (.int xi), .val (.int xk), .val (.ref xr), .val (.int x1), .val (.int x2), .val (.int x3)] [(.int x1)])) _
        refine XS.i2b X0.here hx rfl (hb hby d_method_2_15) rfl ?_
        show Steps p.tables e below (s₁.setTop (mkF m 16 #[.val (.int xi), .val (.int xk), .val (.ref xr), .val (.int x1), .val (.int x2), .val (.int x3)] [(.int (x1.toInt8.toInt32))])) _
        exact retI X0 hx Bd.returns (hb hby d_method_2_16) (by rw [show (x1.toInt8.toInt32) = (expF xi xk ys x1 x2 x3) from by rw [expF, if_neg hc2, if_pos h11]]; exact hr)
      · refine XS.icmpYes X0.here hx rfl (pc0 := 11) (pc' := 17) rfl (hb hby d_method_2_11) rfl (feq h11).2 (by decide) (by decide) ?_
        show Steps p.tables e below (s₁.setTop (mkF m 17 #[.val (.int xi), .val (.int xk), .val (.ref xr), .val (.int x1), .val (.int x2), .val (.int x3)] [])) _
        refine XS.iloadN X0.here hx rfl (hb hby d_method_2_17) rfl ?_
        show Steps p.tables e below (s₁.setTop (mkF m 18 #[.val (.int xi), .val (.int xk), .val (.ref xr), .val (.int x1), .val (.int x2), .val (.int x3)] [(.int xi)])) _
        refine XS.iloadN X0.here hx rfl (hb hby d_method_2_18) rfl ?_
        show Steps p.tables e below (s₁.setTop (mkF m 19 #[.val (.int xi), .val (.int xk), .val (.ref xr), .val (.int x1), .val (.int x2), .val (.int x3)] [(.int xk), (.int xi)])) _
        refine XS.iconst X0.here hx rfl (hb hby d_method_2_19) ?_
        show Steps p.tables e below (s₁.setTop (mkF m 20 #[.val (.int xi), .val (.int xk), .val (.ref xr), .val (.int x1), .val (.int x2), .val (.int x3)] [(.int (1 : Int32)), (.int xk), (.int xi)])) _
        refine XS.iadd X0.here hx rfl (hb hby d_method_2_20) rfl ?_
        show Steps p.tables e below (s₁.setTop (mkF m 21 #[.val (.int xi), .val (.int xk), .val (.ref xr), .val (.int x1), .val (.int x2), .val (.int x3)] [(.int (xk + (1 : Int32))), (.int xi)])) _
        by_cases h21 : xi = (xk + (1 : Int32))
        · refine XS.icmpNo X0.here hx rfl (hb hby d_method_2_21) rfl (teq h21).2 ?_
          show Steps p.tables e below (s₁.setTop (mkF m 24 #[.val (.int xi), .val (.int xk), .val (.ref xr), .val (.int x1), .val (.int x2), .val (.int x3)] [])) _
          refine XS.iload X0.here hx rfl (hb hby d_method_2_24) rfl ?_
          show Steps p.tables e below (s₁.setTop (mkF m 26 #[.val (.int xi), .val (.int xk), .val (.ref xr), .val (.int x1), .val (.int x2), .val (.int x3)] [(.int x2)])) _
          refine XS.i2b X0.here hx rfl (hb hby d_method_2_26) rfl ?_
          show Steps p.tables e below (s₁.setTop (mkF m 27 #[.val (.int xi), .val (.int xk), .val (.ref xr), .val (.int x1), .val (.int x2), .val (.int x3)] [(.int (x2.toInt8.toInt32))])) _
          exact retI X0 hx Bd.returns (hb hby d_method_2_27) (by rw [show (x2.toInt8.toInt32) = (expF xi xk ys x1 x2 x3) from by rw [expF, if_neg hc2, if_neg h11, if_pos h21]]; exact hr)
        · refine XS.icmpYes X0.here hx rfl (pc0 := 21) (pc' := 28) rfl (hb hby d_method_2_21) rfl (feq h21).2 (by decide) (by decide) ?_
          show Steps p.tables e below (s₁.setTop (mkF m 28 #[.val (.int xi), .val (.int xk), .val (.ref xr), .val (.int x1), .val (.int x2), .val (.int x3)] [])) _
          refine XS.iload X0.here hx rfl (hb hby d_method_2_28) rfl ?_
          show Steps p.tables e below (s₁.setTop (mkF m 30 #[.val (.int xi), .val (.int xk), .val (.ref xr), .val (.int x1), .val (.int x2), .val (.int x3)] [(.int x3)])) _
          refine XS.i2b X0.here hx rfl (hb hby d_method_2_30) rfl ?_
          show Steps p.tables e below (s₁.setTop (mkF m 31 #[.val (.int xi), .val (.int xk), .val (.ref xr), .val (.int x1), .val (.int x2), .val (.int x3)] [(.int (x3.toInt8.toInt32))])) _
          exact retI X0 hx Bd.returns (hb hby d_method_2_31) (by rw [show (x3.toInt8.toInt32) = (expF xi xk ys x1 x2 x3) from by rw [expF, if_neg hc2, if_neg h11, if_neg h21]]; exact hr)
    · show Q_exp Z xi xk xr x1 x2 x3 ys h0 n0 _ s₁.heap _
      rw [e0]
      exact ⟨rfl, N0, rfl⟩
theorem d_method_3_0 : decode method_3_code 0 = .ok (.iload_n 1, 1) := by decide +kernel
theorem d_method_3_1 : decode method_3_code 1 = .ok (.ifCond .lt 9, 3) := by decide +kernel
theorem d_method_3_4 : decode method_3_code 4 = .ok (.iload_n 1, 1) := by decide +kernel
theorem d_method_3_5 : decode method_3_code 5 = .ok (.aload_n 0, 1) := by decide +kernel
theorem d_method_3_6 : decode method_3_code 6 = .ok (.arraylength, 1) := by decide +kernel
theorem d_method_3_7 : decode method_3_code 7 = .ok (.if_icmp .lt 5, 3) := by decide +kernel
theorem d_method_3_10 : decode method_3_code 10 = .ok (.iconst 1, 1) := by decide +kernel
theorem d_method_3_11 : decode method_3_code 11 = .ok (.ireturn, 1) := by decide +kernel
theorem d_method_3_12 : decode method_3_code 12 = .ok (.aload_n 0, 1) := by decide +kernel
theorem d_method_3_13 : decode method_3_code 13 = .ok (.iload_n 1, 1) := by decide +kernel
theorem d_method_3_14 : decode method_3_code 14 = .ok (.baload, 1) := by decide +kernel
theorem d_method_3_15 : decode method_3_code 15 = .ok (.iload_n 1, 1) := by decide +kernel
theorem d_method_3_16 : decode method_3_code 16 = .ok (.iload_n 2, 1) := by decide +kernel
theorem d_method_3_17 : decode method_3_code 17 = .ok (.aload_n 3, 1) := by decide +kernel
theorem d_method_3_18 : decode method_3_code 18 = .ok (.iload 4, 2) := by decide +kernel
theorem d_method_3_20 : decode method_3_code 20 = .ok (.iload 5, 2) := by decide +kernel
theorem d_method_3_22 : decode method_3_code 22 = .ok (.iload 6, 2) := by decide +kernel
theorem d_method_3_24 : decode method_3_code 24 = .ok (.invokestatic 7, 3) := by decide +kernel
theorem d_method_3_27 : decode method_3_code 27 = .ok (.if_icmp .ne 7, 3) := by decide +kernel
theorem d_method_3_30 : decode method_3_code 30 = .ok (.iconst 1, 1) := by decide +kernel
theorem d_method_3_31 : decode method_3_code 31 = .ok (.goto 4, 3) := by decide +kernel
theorem d_method_3_34 : decode method_3_code 34 = .ok (.iconst 0, 1) := by decide +kernel
theorem d_method_3_35 : decode method_3_code 35 = .ok (.ireturn, 1) := by decide +kernel
theorem pd_7 : parseMethodDescriptor "(II[BIII)I" = some ⟨[.int, .int, (.array .byte), .int, .int, .int], some .int⟩ := by decide +kernel
theorem ef_at (m : MethodId) (xu : Addr) (xi : Int32) (xk : Int32) (xr : Addr) (x1 : Int32) (x2 : Int32) (x3 : Int32) : entryFrame m #[(.ref xu), (.int xi), (.int xk), (.ref xr), (.int x1), (.int x2), (.int x3)] 7 = mkF m 0 #[.val (.ref xu), .val (.int xi), .val (.int xk), .val (.ref xr), .val (.int x1), .val (.int x2), .val (.int x3)] [] := by first | (simp [entryFrame, mkF, argsToLocals, Value.category]; done) | rfl
def Q_at (Z : State) (xu : Addr) (xi : Int32) (xk : Int32) (xr : Addr) (x1 : Int32) (x2 : Int32) (x3 : Int32) (zs : List Int32) (ys : List Int32) (h0 : Heap) (n0 : Nat) (v : Option Value) (h : Heap) (L : List Loc) : Prop := v = some (.int (atF zs xi xk ys x1 x2 x3)) ∧ Fr n0 L ∧ h = h0
set_option maxRecDepth 65536 in
set_option maxHeartbeats 40000000 in
theorem rm_at (l : Launch) (Z : State) (a0 : Array Value) (hw : ∀ d ∈ tables_1, d.before a0 Z = true) (ws : List Jvm.Cond) (xu : Addr) (xi : Int32) (xk : Int32) (xr : Addr) (x1 : Int32) (x2 : Int32) (x3 : Int32) (zs : List Int32) (ys : List Int32) (h0 : Heap) (n0 : Nat) (Z0 : n0 ≤ h0.size) (Au : BA Z h0 xu zs) (Ay : BA Z h0 xr ys) (hin : ¬ xi < 0 → xi < xk → inR ys xi = true) :
    MetFree l (⟨"com/example/driftstone/driftstone/core/RecordOutputWritePinLaw", "at", "([BII[BIII)Z"⟩ : MethodName) (head1 (Jvm.Cond.code (⟨"com/example/driftstone/driftstone/core/RecordOutputWritePinLaw", "at", "([BII[BIII)Z"⟩ : MethodName) method_3_code 7 (some .boolean) :: ws) ({ frames := 1, cells := 0, slots := 0, locals := 18 } : Room)) (fun a U => a = #[(.ref xu), (.int xi), (.int xk), (.ref xr), (.int x1), (.int x2), (.int x3)] ∧ Z.Warmed39 U.vm ∧ U.heap = h0) (fun _ _ _ _ _ => True) (fun _ U o U' => ∃ v L, o = .returned v ∧ Q_at Z xu xi xk xr x1 x2 x3 zs ys h0 n0 v U'.heap L ∧ FrameEnd U o U' L ({ frames := 1, cells := 0, slots := 0, locals := 18 } : Room).cells ({ frames := 1, cells := 0, slots := 0, locals := 18 } : Room).slots) := by
  refine MetFree.of_bodySF (plainFor_of_name pn_6) hisR ?_
  intro p e s m args below meth c s₁ Bd hml0 hP hK
  obtain ⟨rfl, hZ, hh⟩ := hP
  have hx := Bd.exec
  have hby := Bd.bytes
  have hml : c.maxLocals = 7 := hml0
  have hown : s.vm.findClass "com/example/driftstone/driftstone/core/RecordOutputWritePinLaw" = some m.cls := findClass_of_methodNamed Bd.named
  have hnm := (name_of_methodNamed Bd.named Bd.method).1
  have X0 : Stand p l e ({ frames := 1, cells := 0, slots := 0, locals := 18 } : Room) s m #[(.ref xu), (.int xi), (.int xk), (.ref xr), (.int x1), (.int x2), (.int x3)] below meth c s₁ [] 0 0 := Stand.of_body Bd
  have e0 : s₁.heap = h0 := by rw [← hh, Bd.state]; rfl
  have N0 := Fr.nil n0
  have pre0 : ∀ t, Steps p.tables e below (s₁.setTop (mkF m 0 #[.val (.ref xu), .val (.int xi), .val (.int xk), .val (.ref xr), .val (.int x1), .val (.int x2), .val (.int x3)] [])) t → Steps p.tables e below (s₁.setTop (entryFrame m #[(.ref xu), (.int xi), (.int xk), (.ref xr), (.int x1), (.int x2), (.int x3)] 7)) t := fun t k => castTop (ef_at m xu xi xk xr x1 x2 x3) k
  have hzl := Au.1
  by_cases hc1 : xi < (0 : Int32)
  · obtain ⟨fs, hr, hrun, hended, hW, hsame⟩ := X0.leave (v := some (.int (atF zs xi xk ys x1 x2 x3))) (fun h => by rw [Bd.returns] at h; cases h)
    refine ⟨_, _, pre0 _ ?_, hrun, hended, _, _, rfl, ?_, ⟨_, rfl⟩, hW, hsame.mono (by decide) (by decide)⟩
    · show Steps p.tables e below (s₁.setTop (mkF m 0 #[.val (.ref xu), .val (.int xi), .val (.int xk), .val (.ref xr), .val (.int x1), .val (.int x2), .val (.int x3)] [])) _
      refine XS.iloadN X0.here hx rfl (hb hby d_method_3_0) rfl ?_
      show Steps p.tables e below (s₁.setTop (mkF m 1 #[.val (.ref xu), .val (.int xi), .val (.int xk), .val (.ref xr), .val (.int x1), .val (.int x2), .val (.int x3)] [(.int xi)])) _
      refine XS.ifYes X0.here hx rfl (pc0 := 1) (pc' := 10) rfl (hb hby d_method_3_1) rfl ((if0 _ _).trans (tlt hc1).1) (by decide) (by decide) ?_
      show Steps p.tables e below (s₁.setTop (mkF m 10 #[.val (.ref xu), .val (.int xi), .val (.int xk), .val (.ref xr), .val (.int x1), .val (.int x2), .val (.int x3)] [])) _
      refine XS.iconst X0.here hx rfl (hb hby d_method_3_10) ?_
      show Steps p.tables e below (s₁.setTop (mkF m 11 #[.val (.ref xu), .val (.int xi), .val (.int xk), .val (.ref xr), .val (.int x1), .val (.int x2), .val (.int x3)] [(.int (1 : Int32))])) _
      exact retN X0 hx (t := .boolean) Bd.returns (by simp) (hb hby d_method_3_11) (by rw [show nar .boolean (1 : Int32) = (atF zs xi xk ys x1 x2 x3) from (own_nar1).trans (by rw [atF, if_pos hc1])]; exact hr)
    · show Q_at Z xu xi xk xr x1 x2 x3 zs ys h0 n0 _ s₁.heap _
      rw [e0]
      exact ⟨rfl, N0, rfl⟩
  · by_cases hc7 : xi < (Int32.ofNat zs.length)
    · obtain ⟨cl1, Ar1, ln1⟩ := Au.ln
      obtain ⟨cl2, Ar2, hin2, hat2, -⟩ := Au.rd (j := xi) (own_inr hzl hc1 hc7)
      obtain ⟨_, _, ⟨T3, L3, k3, n3⟩, -, X3, ⟨Lc3, hQ3, l3, y3, z3⟩, st3⟩ := Jvm.LawKit.callS X0 hx (y := (⟨"com/example/driftstone/driftstone/core/RecordOutputWritePinLaw", "expected", "(II[BIII)I"⟩ : MethodName)) hown (mvT hZ (hw _ (List.mem_of_getElem? (i := 87) rfl))) (mvT hZ (hw _ (List.mem_of_getElem? (i := 88) rfl))) (mvT hZ (hw _ (List.mem_of_getElem? (i := 85) rfl))) (mvT hZ (hw _ (List.mem_of_getElem? (i := 89) rfl))) (by decide) (backOf (W := 1) (rm_exp l Z a0 hw [] xi xk xr x1 x2 x3 ys h0 n0 Z0 Ay (hin hc1)) hZ (hw _ (List.mem_of_getElem? (i := 89) rfl)) (hw _ (List.mem_of_getElem? (i := 85) rfl)) (by decide) (by decide)) (g := (mkF m 24 #[.val (.ref xu), .val (.int xi), .val (.int xk), .val (.ref xr), .val (.int x1), .val (.int x2), .val (.int x3)] [(.int x3), (.int x2), (.int x1), (.ref xr), (.int xk), (.int xi), (.int (gI zs xi))])) rfl (by rw [hml]; rfl) (argsL := [(.int xi), (.int xk), (.ref xr), (.int x1), (.int x2), (.int x3)]) (rest := [(.int (gI zs xi))]) (lenOf pd_7 rfl) rfl (by show 2 * 0 + _ ≤ _; exact Nat.le_of_eq rfl) (hb hby d_method_3_24) (fun _ _ => ⟨rfl, e0, (by decide : 0 + 0 ≤ _), (by decide : 0 + 0 ≤ _)⟩)
      dsimp only [Pt.U, Pt.locs, Pt.cells, Pt.slots] at X3 l3 y3 z3 st3 hQ3
      subst l3 y3 z3
      obtain ⟨rfl, N3q, e3⟩ := hQ3
      have N3 := Fr.app N0 N3q
      obtain ⟨fs, hr, hrun, hended, hW, hsame⟩ := X3.leave (v := some (.int (atF zs xi xk ys x1 x2 x3))) (fun h => by rw [Bd.returns] at h; cases h)
      refine ⟨_, _, pre0 _ ?_, hrun, hended, _, _, rfl, ?_, ⟨_, rfl⟩, hW, hsame.mono (by decide) (by decide)⟩
      · show Steps p.tables e below (s₁.setTop (mkF m 0 #[.val (.ref xu), .val (.int xi), .val (.int xk), .val (.ref xr), .val (.int x1), .val (.int x2), .val (.int x3)] [])) _
        refine XS.iloadN X0.here hx rfl (hb hby d_method_3_0) rfl ?_
        show Steps p.tables e below (s₁.setTop (mkF m 1 #[.val (.ref xu), .val (.int xi), .val (.int xk), .val (.ref xr), .val (.int x1), .val (.int x2), .val (.int x3)] [(.int xi)])) _
        refine XS.ifNo X0.here hx rfl (hb hby d_method_3_1) rfl ((if0 _ _).trans (flt hc1).1) ?_
        show Steps p.tables e below (s₁.setTop (mkF m 4 #[.val (.ref xu), .val (.int xi), .val (.int xk), .val (.ref xr), .val (.int x1), .val (.int x2), .val (.int x3)] [])) _
        refine XS.iloadN X0.here hx rfl (hb hby d_method_3_4) rfl ?_
        show Steps p.tables e below (s₁.setTop (mkF m 5 #[.val (.ref xu), .val (.int xi), .val (.int xk), .val (.ref xr), .val (.int x1), .val (.int x2), .val (.int x3)] [(.int xi)])) _
        refine XS.aloadN X0.here hx rfl (hb hby d_method_3_5) rfl rfl ?_
        show Steps p.tables e below (s₁.setTop (mkF m 6 #[.val (.ref xu), .val (.int xi), .val (.int xk), .val (.ref xr), .val (.int x1), .val (.int x2), .val (.int x3)] [(.ref xu), (.int xi)])) _
        refine X0.arraylength hx (by rw [e0]; exact Ar1.1) (State.isArrayOf_alike hZ.alike Ar1.2.1) (g := (mkF m 6 #[.val (.ref xu), .val (.int xi), .val (.int xk), .val (.ref xr), .val (.int x1), .val (.int x2), .val (.int x3)] [(.ref xu), (.int xi)])) rfl rfl (hb hby d_method_3_6) _ ?_
        rw [ln1]
        show Steps p.tables e below (s₁.setTop (mkF m 7 #[.val (.ref xu), .val (.int xi), .val (.int xk), .val (.ref xr), .val (.int x1), .val (.int x2), .val (.int x3)] [(.int (Int32.ofNat zs.length)), (.int xi)])) _
        refine XS.icmpYes X0.here hx rfl (pc0 := 7) (pc' := 12) rfl (hb hby d_method_3_7) rfl (tlt hc7).1 (by decide) (by decide) ?_
        show Steps p.tables e below (s₁.setTop (mkF m 12 #[.val (.ref xu), .val (.int xi), .val (.int xk), .val (.ref xr), .val (.int x1), .val (.int x2), .val (.int x3)] [])) _
        refine XS.aloadN X0.here hx rfl (hb hby d_method_3_12) rfl rfl ?_
        show Steps p.tables e below (s₁.setTop (mkF m 13 #[.val (.ref xu), .val (.int xi), .val (.int xk), .val (.ref xr), .val (.int x1), .val (.int x2), .val (.int x3)] [(.ref xu)])) _
        refine XS.iloadN X0.here hx rfl (hb hby d_method_3_13) rfl ?_
        show Steps p.tables e below (s₁.setTop (mkF m 14 #[.val (.ref xu), .val (.int xi), .val (.int xk), .val (.ref xr), .val (.int x1), .val (.int x2), .val (.int x3)] [(.int xi), (.ref xu)])) _
        refine X0.baloadBytes hx (j := xi) (v := (.int (gI zs xi))) (by rw [e0]; exact Ar2.1) (State.isArrayOf_alike hZ.alike Ar2.2.1) Ar2.2.2 hin2 hat2 (g := (mkF m 14 #[.val (.ref xu), .val (.int xi), .val (.int xk), .val (.ref xr), .val (.int x1), .val (.int x2), .val (.int x3)] [(.int xi), (.ref xu)])) rfl rfl (hb hby d_method_3_14) _ ?_
        show Steps p.tables e below (s₁.setTop (mkF m 15 #[.val (.ref xu), .val (.int xi), .val (.int xk), .val (.ref xr), .val (.int x1), .val (.int x2), .val (.int x3)] [(.int (gI zs xi))])) _
        refine XS.iloadN X0.here hx rfl (hb hby d_method_3_15) rfl ?_
        show Steps p.tables e below (s₁.setTop (mkF m 16 #[.val (.ref xu), .val (.int xi), .val (.int xk), .val (.ref xr), .val (.int x1), .val (.int x2), .val (.int x3)] [(.int xi), (.int (gI zs xi))])) _
        refine XS.iloadN X0.here hx rfl (hb hby d_method_3_16) rfl ?_
        show Steps p.tables e below (s₁.setTop (mkF m 17 #[.val (.ref xu), .val (.int xi), .val (.int xk), .val (.ref xr), .val (.int x1), .val (.int x2), .val (.int x3)] [(.int xk), (.int xi), (.int (gI zs xi))])) _
        refine XS.aloadN X0.here hx rfl (hb hby d_method_3_17) rfl rfl ?_
        show Steps p.tables e below (s₁.setTop (mkF m 18 #[.val (.ref xu), .val (.int xi), .val (.int xk), .val (.ref xr), .val (.int x1), .val (.int x2), .val (.int x3)] [(.ref xr), (.int xk), (.int xi), (.int (gI zs xi))])) _
        refine XS.iload X0.here hx rfl (hb hby d_method_3_18) rfl ?_
        show Steps p.tables e below (s₁.setTop (mkF m 20 #[.val (.ref xu), .val (.int xi), .val (.int xk), .val (.ref xr), .val (.int x1), .val (.int x2), .val (.int x3)] [(.int x1), (.ref xr), (.int xk), (.int xi), (.int (gI zs xi))])) _
        refine XS.iload X0.here hx rfl (hb hby d_method_3_20) rfl ?_
        show Steps p.tables e below (s₁.setTop (mkF m 22 #[.val (.ref xu), .val (.int xi), .val (.int xk), .val (.ref xr), .val (.int x1), .val (.int x2), .val (.int x3)] [(.int x2), (.int x1), (.ref xr), (.int xk), (.int xi), (.int (gI zs xi))])) _
        refine XS.iload X0.here hx rfl (hb hby d_method_3_22) rfl ?_
        show Steps p.tables e below (s₁.setTop (mkF m 24 #[.val (.ref xu), .val (.int xi), .val (.int xk), .val (.ref xr), .val (.int x1), .val (.int x2), .val (.int x3)] [(.int x3), (.int x2), (.int x1), (.ref xr), (.int xk), (.int xi), (.int (gI zs xi))])) _
        refine st3 _ ?_
        show Steps p.tables e below (T3.setTop (mkF m 27 #[.val (.ref xu), .val (.int xi), .val (.int xk), .val (.ref xr), .val (.int x1), .val (.int x2), .val (.int x3)] [(.int (expF xi xk ys x1 x2 x3)), (.int (gI zs xi))])) _
        by_cases h27 : (gI zs xi) = (expF xi xk ys x1 x2 x3)
        · refine XS.icmpNo X3.here hx rfl (hb hby d_method_3_27) rfl (teq h27).2 ?_
          show Steps p.tables e below (T3.setTop (mkF m 30 #[.val (.ref xu), .val (.int xi), .val (.int xk), .val (.ref xr), .val (.int x1), .val (.int x2), .val (.int x3)] [])) _
          refine XS.iconst X3.here hx rfl (hb hby d_method_3_30) ?_
          show Steps p.tables e below (T3.setTop (mkF m 31 #[.val (.ref xu), .val (.int xi), .val (.int xk), .val (.ref xr), .val (.int x1), .val (.int x2), .val (.int x3)] [(.int (1 : Int32))])) _
          refine XS.goto X3.here hx rfl (pc0 := 31) (pc' := 35) rfl (hb hby d_method_3_31) (by decide) (by decide) ?_
          show Steps p.tables e below (T3.setTop (mkF m 35 #[.val (.ref xu), .val (.int xi), .val (.int xk), .val (.ref xr), .val (.int x1), .val (.int x2), .val (.int x3)] [(.int (1 : Int32))])) _
          exact retN X3 hx (t := .boolean) Bd.returns (by simp) (hb hby d_method_3_35) (by rw [show nar .boolean (1 : Int32) = (atF zs xi xk ys x1 x2 x3) from (own_nar1).trans (by rw [atF, if_neg hc1, if_pos hc7, if_pos h27])]; exact hr)
        · refine XS.icmpYes X3.here hx rfl (pc0 := 27) (pc' := 34) rfl (hb hby d_method_3_27) rfl (feq h27).2 (by decide) (by decide) ?_
          show Steps p.tables e below (T3.setTop (mkF m 34 #[.val (.ref xu), .val (.int xi), .val (.int xk), .val (.ref xr), .val (.int x1), .val (.int x2), .val (.int x3)] [])) _
          refine XS.iconst X3.here hx rfl (hb hby d_method_3_34) ?_
          show Steps p.tables e below (T3.setTop (mkF m 35 #[.val (.ref xu), .val (.int xi), .val (.int xk), .val (.ref xr), .val (.int x1), .val (.int x2), .val (.int x3)] [(.int (0 : Int32))])) _
          exact retN X3 hx (t := .boolean) Bd.returns (by simp) (hb hby d_method_3_35) (by rw [show nar .boolean (0 : Int32) = (atF zs xi xk ys x1 x2 x3) from (own_nar0).trans (by rw [atF, if_neg hc1, if_pos hc7, if_neg h27])]; exact hr)
      · show Q_at Z xu xi xk xr x1 x2 x3 zs ys h0 n0 _ T3.heap _
        rw [e3]
        exact ⟨rfl, N3, rfl⟩
    · obtain ⟨cl4, Ar4, ln4⟩ := Au.ln
      obtain ⟨fs, hr, hrun, hended, hW, hsame⟩ := X0.leave (v := some (.int (atF zs xi xk ys x1 x2 x3))) (fun h => by rw [Bd.returns] at h; cases h)
      refine ⟨_, _, pre0 _ ?_, hrun, hended, _, _, rfl, ?_, ⟨_, rfl⟩, hW, hsame.mono (by decide) (by decide)⟩
      · show Steps p.tables e below (s₁.setTop (mkF m 0 #[.val (.ref xu), .val (.int xi), .val (.int xk), .val (.ref xr), .val (.int x1), .val (.int x2), .val (.int x3)] [])) _
        refine XS.iloadN X0.here hx rfl (hb hby d_method_3_0) rfl ?_
        show Steps p.tables e below (s₁.setTop (mkF m 1 #[.val (.ref xu), .val (.int xi), .val (.int xk), .val (.ref xr), .val (.int x1), .val (.int x2), .val (.int x3)] [(.int xi)])) _
        refine XS.ifNo X0.here hx rfl (hb hby d_method_3_1) rfl ((if0 _ _).trans (flt hc1).1) ?_
        show Steps p.tables e below (s₁.setTop (mkF m 4 #[.val (.ref xu), .val (.int xi), .val (.int xk), .val (.ref xr), .val (.int x1), .val (.int x2), .val (.int x3)] [])) _
        refine XS.iloadN X0.here hx rfl (hb hby d_method_3_4) rfl ?_
        show Steps p.tables e below (s₁.setTop (mkF m 5 #[.val (.ref xu), .val (.int xi), .val (.int xk), .val (.ref xr), .val (.int x1), .val (.int x2), .val (.int x3)] [(.int xi)])) _
        refine XS.aloadN X0.here hx rfl (hb hby d_method_3_5) rfl rfl ?_
        show Steps p.tables e below (s₁.setTop (mkF m 6 #[.val (.ref xu), .val (.int xi), .val (.int xk), .val (.ref xr), .val (.int x1), .val (.int x2), .val (.int x3)] [(.ref xu), (.int xi)])) _
        refine X0.arraylength hx (by rw [e0]; exact Ar4.1) (State.isArrayOf_alike hZ.alike Ar4.2.1) (g := (mkF m 6 #[.val (.ref xu), .val (.int xi), .val (.int xk), .val (.ref xr), .val (.int x1), .val (.int x2), .val (.int x3)] [(.ref xu), (.int xi)])) rfl rfl (hb hby d_method_3_6) _ ?_
        rw [ln4]
        show Steps p.tables e below (s₁.setTop (mkF m 7 #[.val (.ref xu), .val (.int xi), .val (.int xk), .val (.ref xr), .val (.int x1), .val (.int x2), .val (.int x3)] [(.int (Int32.ofNat zs.length)), (.int xi)])) _
        refine XS.icmpNo X0.here hx rfl (hb hby d_method_3_7) rfl (flt hc7).1 ?_
        show Steps p.tables e below (s₁.setTop (mkF m 10 #[.val (.ref xu), .val (.int xi), .val (.int xk), .val (.ref xr), .val (.int x1), .val (.int x2), .val (.int x3)] [])) _
        refine XS.iconst X0.here hx rfl (hb hby d_method_3_10) ?_
        show Steps p.tables e below (s₁.setTop (mkF m 11 #[.val (.ref xu), .val (.int xi), .val (.int xk), .val (.ref xr), .val (.int x1), .val (.int x2), .val (.int x3)] [(.int (1 : Int32))])) _
        exact retN X0 hx (t := .boolean) Bd.returns (by simp) (hb hby d_method_3_11) (by rw [show nar .boolean (1 : Int32) = (atF zs xi xk ys x1 x2 x3) from (own_nar1).trans (by rw [atF, if_neg hc1, if_neg hc7])]; exact hr)
      · show Q_at Z xu xi xk xr x1 x2 x3 zs ys h0 n0 _ s₁.heap _
        rw [e0]
        exact ⟨rfl, N0, rfl⟩
theorem inR_sI {xs : List Int32} {j k v : Int32} (h : inR xs k = true) : inR (sI xs j v) k = true := by
  rw [inR_iff] at h ⊢; show _ ∧ _ < (xs.set _ _).length; rw [List.length_set]; exact h
def kF (x : Int32) : Int32 := (x &&& (2147483647 : Int32)) - ((x &&& (2147483647 : Int32)) / (33 : Int32)) * (33 : Int32)
def ysF (xp xq : Int32) : List Int32 := sI (sI (sI (List.replicate 32 0) (0 : Int32) (nar .byte (xp.toInt8.toInt32))) (16 : Int32) (nar .byte ((xp >>> ((8 : Int32) &&& 31)).toInt8.toInt32))) (31 : Int32) (nar .byte (xq.toInt8.toInt32))
def wF (xs : List Int32) (c b : Int32) : List Int32 := sI (gB xs c) c (nar .byte (b.toInt8.toInt32))
def c1F (k : Int32) : Int32 := ((0 : Int32) + k) + (1 : Int32)
def c2F (k : Int32) : Int32 := c1F k + (1 : Int32)
def c3F (k : Int32) : Int32 := c2F k + (1 : Int32)
def f0F (k : Int32) (ys : List Int32) : List Int32 := wrF (List.replicate 32 0) ys k
def f1F (k : Int32) (ys : List Int32) (b1 : Int32) : List Int32 := wF (f0F k ys) ((0 : Int32) + k) b1
def f2F (k : Int32) (ys : List Int32) (b1 b2 : Int32) : List Int32 := wF (f1F k ys b1) (c1F k) b2
def f3F (k : Int32) (ys : List Int32) (b1 b2 b3 : Int32) : List Int32 := wF (f2F k ys b1 b2) (c2F k) b3
def zsF (k : Int32) (ys : List Int32) (b1 b2 b3 : Int32) : List Int32 := cpB (f3F k ys b1 b2 b3) (c3F k)
theorem k_rng (x : Int32) : ¬ kF x < 0 ∧ (kF x).toNatClampNeg ≤ 32 := by
  have h : (x &&& (2147483647 : Int32)).toInt = x.toInt % (2 ^ 31 : Nat) := c_mask x _ 31 (by decide) (by decide)
  have e : kF x = (x &&& (2147483647 : Int32)) % 33 := irem_eq_mod _ _
  have a := (c_irem (x &&& (2147483647 : Int32)) 33 33 rfl).1 (by omega)
  rw [← e] at a
  have q : ¬ kF x < 0 := by rw [Int32.lt_iff_toInt_lt]; show ¬ _ < (0 : Int); omega
  exact ⟨q, by have := own_int q; omega⟩
theorem ys_len (xp xq : Int32) : (ysF xp xq).length = 32 := by
  show (((List.set _ _ _).set _ _).set _ _).length = _; rw [List.length_set, List.length_set, List.length_set]; rfl
/-- a counter: its number -/
def Num (c : Int32) (n : Nat) : Prop := ¬ c < 0 ∧ c.toNatClampNeg = n
theorem Num.int {c : Int32} {n : Nat} (h : Num c n) : c.toInt = n := by rw [own_int h.1, h.2]
theorem Num.of {c : Int32} {n : Nat} (h : c.toInt = n) : Num c n := by
  have q : ¬ c < 0 := by rw [Int32.lt_iff_toInt_lt]; show ¬ _ < (0 : Int); omega
  exact ⟨q, by have := own_int q; omega⟩
theorem Num.succ {c : Int32} {n : Nat} (h : Num c n) (q : n ≤ 1000) : Num (c + (1 : Int32)) (n + 1) := by
  refine Num.of ?_
  have a := c_iadd c 1; have r := rng32 (c + 1); have e := h.int; rw [show (1 : Int32).toInt = 1 from rfl] at a; omega
theorem num0 {k : Int32} (h : ¬ k < 0 ∧ k.toNatClampNeg ≤ 32) : Num ((0 : Int32) + k) k.toNatClampNeg := Num.of (by rw [own_z, own_int h.1])
/-- the list and the counter fit -/
def Fit2 (xs : List Int32) (n : Nat) : Prop := (xs.length = 32 ∧ n ≤ 32) ∨ (xs.length = 128 ∧ n ≤ 100)
theorem num_eq {xs : List Int32} {c : Int32} {n : Nat} (h : Num c n) (l : xs.length ≤ 1000) : c = Int32.ofNat xs.length ↔ n = xs.length := by
  rw [← Int32.toInt_inj, h.int, own_len l]; omega
theorem fit_le {xs : List Int32} {n : Nat} (h : Fit2 xs n) : xs.length ≤ 1000 := by rcases h with h | h <;> omega
theorem fit_hg {xs : List Int32} {c : Int32} {n : Nat} (h : Num c n) (q : Fit2 xs n) : c = Int32.ofNat xs.length → xs.length = 32 := fun e => by
  rw [num_eq h (fit_le q)] at e; rcases q with q | q <;> omega
theorem gB_len {xs : List Int32} {c : Int32} {n : Nat} (h : Num c n) (q : Fit2 xs n) : n < (gB xs c).length ∧ ((gB xs c).length = 32 ∧ n + 1 ≤ 32 ∨ (gB xs c).length = 128) := by
  unfold gB
  by_cases e : c = Int32.ofNat xs.length
  · rw [if_pos e, cpB_len]
    have := fit_hg h q e; rw [num_eq h (fit_le q)] at e
    rw [show (128 : Int32).toNatClampNeg = 128 from rfl]; omega
  · rw [if_neg e]; rw [num_eq h (fit_le q)] at e; rcases q with q | q <;> omega
theorem fit_in {xs : List Int32} {c : Int32} {n : Nat} (h : Num c n) (q : Fit2 xs n) : inR (gB xs c) c = true := by
  rw [inR_iff]; exact ⟨h.1, by rw [h.2]; exact (gB_len h q).1⟩
theorem fit_w {xs : List Int32} {c b : Int32} {n : Nat} (h : Num c n) (q : Fit2 xs n) (hn : n ≤ 50) : Fit2 (wF xs c b) (n + 1) := by
  have := (gB_len h q).2
  show (List.length (List.set _ _ _) = _ ∧ _) ∨ (List.length (List.set _ _ _) = _ ∧ _)
  rw [List.length_set]; omega
theorem gB_get {xs : List Int32} {c : Int32} {n j : Nat} (h : Num c n) (q : Fit2 xs n) (hj : j < n) : (gB xs c).getD j 0 = xs.getD j 0 := by
  unfold gB
  by_cases e : c = Int32.ofNat xs.length
  · rw [if_pos e]
    have l32 := fit_hg h q e; rw [num_eq h (fit_le q)] at e
    show (xs.take 128 ++ List.replicate _ _).getD j 0 = _
    rw [List.take_of_length_le (by omega)]
    simp only [List.getD_eq_getElem?_getD, List.getElem?_append_left (show j < xs.length by omega)]
  · rw [if_neg e]
theorem w_lt {xs : List Int32} {c b : Int32} {n j : Nat} (h : Num c n) (q : Fit2 xs n) (hj : j < n) : (wF xs c b).getD j 0 = xs.getD j 0 := by
  rw [← gB_get h q hj]
  show ((gB xs c).set c.toNatClampNeg _).getD j 0 = _
  simp only [List.getD_eq_getElem?_getD]; rw [List.getElem?_set_ne (by rw [h.2]; omega)]
theorem w_eq {xs : List Int32} {c b : Int32} {n : Nat} (h : Num c n) (q : Fit2 xs n) : (wF xs c b).getD n 0 = b.toInt8.toInt32 := by
  show ((gB xs c).set c.toNatClampNeg _).getD n 0 = _
  rw [h.2, List.getD_eq_getElem?_getD, List.getElem?_set_self (gB_len h q).1]
  show nar .byte (b.toInt8.toInt32) = _
  show (b.toInt8.toInt32).toInt8.toInt32 = _
  rw [Int8.toInt8_toInt32]
section Law
variable {k : Int32} {ys : List Int32} {b1 b2 b3 : Int32}
theorem f0_fit (hk : ¬ k < 0 ∧ k.toNatClampNeg ≤ 32) (hy : ys.length = 32) : Fit2 (f0F k ys) k.toNatClampNeg := Or.inl ⟨wr_len (List.length_replicate ..) hy hk.2, hk.2⟩
theorem f0_get (hk : ¬ k < 0 ∧ k.toNatClampNeg ≤ 32) (hy : ys.length = 32) {j : Nat} (hj : j < k.toNatClampNeg) : (f0F k ys).getD j 0 = ys.getD j 0 := by
  show (ys.take _ ++ List.drop _ _).getD j 0 = _
  simp only [List.getD_eq_getElem?_getD]
  rw [List.getElem?_append_left (by rw [List.length_take]; omega), List.getElem?_take, if_pos hj]
theorem f1_fit (hk : ¬ k < 0 ∧ k.toNatClampNeg ≤ 32) (hy : ys.length = 32) : Fit2 (f1F k ys b1) (k.toNatClampNeg + 1) := fit_w (num0 hk) (f0_fit hk hy) (by omega)
theorem num1 (hk : ¬ k < 0 ∧ k.toNatClampNeg ≤ 32) : Num (c1F k) (k.toNatClampNeg + 1) := (num0 hk).succ (by omega)
theorem f2_fit (hk : ¬ k < 0 ∧ k.toNatClampNeg ≤ 32) (hy : ys.length = 32) : Fit2 (f2F k ys b1 b2) (k.toNatClampNeg + 1 + 1) := fit_w (num1 hk) (f1_fit hk hy) (by omega)
theorem num2 (hk : ¬ k < 0 ∧ k.toNatClampNeg ≤ 32) : Num (c2F k) (k.toNatClampNeg + 1 + 1) := (num1 hk).succ (by omega)
theorem f3_fit (hk : ¬ k < 0 ∧ k.toNatClampNeg ≤ 32) (hy : ys.length = 32) : Fit2 (f3F k ys b1 b2 b3) (k.toNatClampNeg + 1 + 1 + 1) := fit_w (num2 hk) (f2_fit hk hy) (by omega)
theorem num3 (hk : ¬ k < 0 ∧ k.toNatClampNeg ≤ 32) : Num (c3F k) (k.toNatClampNeg + 1 + 1 + 1) := (num2 hk).succ (by omega)
theorem c3_eq (hk : ¬ k < 0 ∧ k.toNatClampNeg ≤ 32) : c3F k = k + (3 : Int32) := by
  apply Int32.toInt_inj.mp
  have a := c_iadd k 3; have r := rng32 (k + 3); have e := own_int hk.1; rw [show (3 : Int32).toInt = 3 from rfl] at a
  rw [(num3 hk).int]; omega
theorem zs_len (hk : ¬ k < 0 ∧ k.toNatClampNeg ≤ 32) : (zsF k ys b1 b2 b3).length = k.toNatClampNeg + 1 + 1 + 1 := by
  show (cpB _ _).length = _; rw [cpB_len]; exact (num3 hk).2
theorem zs_len3 (hk : ¬ k < 0 ∧ k.toNatClampNeg ≤ 32) : Int32.ofNat (zsF k ys b1 b2 b3).length = k + (3 : Int32) := by
  rw [zs_len hk, ← c3_eq hk]
  apply Int32.toInt_inj.mp
  rw [own_len (by omega), (num3 hk).int]
theorem zs_get (hk : ¬ k < 0 ∧ k.toNatClampNeg ≤ 32) (hy : ys.length = 32) {j : Nat} (hj : j < k.toNatClampNeg + 1 + 1 + 1) : (zsF k ys b1 b2 b3).getD j 0 = (f3F k ys b1 b2 b3).getD j 0 := by
  have l := f3_fit (b1 := b1) (b2 := b2) (b3 := b3) hk hy
  show ((f3F k ys b1 b2 b3).take (c3F k).toNatClampNeg ++ List.replicate ((c3F k).toNatClampNeg - (f3F k ys b1 b2 b3).length) 0).getD j 0 = _
  rw [(num3 hk).2]
  simp only [List.getD_eq_getElem?_getD]
  rw [List.getElem?_append_left (by rw [List.length_take]; rcases l with l | l <;> omega), List.getElem?_take, if_pos hj]
theorem at_one (hk : ¬ k < 0 ∧ k.toNatClampNeg ≤ 32) (hy : ys.length = 32) (i : Int32) : atF (zsF k ys b1 b2 b3) i k ys b1 b2 b3 = 1 := by
  unfold atF
  by_cases h0 : i < 0
  · rw [if_pos h0]
  · rw [if_neg h0]
    by_cases h1 : i < Int32.ofNat (zsF k ys b1 b2 b3).length
    · rw [if_pos h1]
      refine if_pos ?_
      rw [Int32.lt_iff_toInt_lt, own_len (by rw [zs_len hk]; omega), zs_len hk, own_int h0] at h1
      have hj : i.toNatClampNeg < k.toNatClampNeg + 1 + 1 + 1 := by omega
      show (zsF k ys b1 b2 b3).getD i.toNatClampNeg 0 = _
      rw [zs_get hk hy hj]
      have ei := own_int h0; have ek := own_int hk.1
      unfold expF
      by_cases q : i < k
      · rw [if_pos q]
        rw [Int32.lt_iff_toInt_lt] at q
        have qj : i.toNatClampNeg < k.toNatClampNeg := by omega
        show (wF _ _ _).getD _ 0 = ys.getD _ 0
        rw [w_lt (num2 hk) (f2_fit hk hy) (by omega)]
        show (wF _ _ _).getD _ 0 = _
        rw [w_lt (num1 hk) (f1_fit hk hy) (by omega)]
        show (wF _ _ _).getD _ 0 = _
        rw [w_lt (num0 hk) (f0_fit hk hy) qj, f0_get hk hy qj]
      · rw [if_neg q]
        rw [Int32.lt_iff_toInt_lt] at q
        by_cases q1 : i = k
        · rw [if_pos q1]; subst q1
          show (wF _ _ _).getD _ 0 = _
          rw [w_lt (num2 hk) (f2_fit hk hy) (by omega)]
          show (wF _ _ _).getD _ 0 = _
          rw [w_lt (num1 hk) (f1_fit hk hy) (by omega)]
          exact w_eq (num0 hk) (f0_fit hk hy)
        · rw [if_neg q1]
          have q1' : i.toInt ≠ k.toInt := fun e => q1 (Int32.toInt_inj.mp e)
          have a := c_iadd k 1; have r := rng32 (k + 1); rw [show (1 : Int32).toInt = 1 from rfl] at a
          by_cases q2 : i = k + (1 : Int32)
          · rw [if_pos q2]
            have e2 : i.toNatClampNeg = k.toNatClampNeg + 1 := by have := congrArg Int32.toInt q2; omega
            rw [e2]
            show (wF _ _ _).getD _ 0 = _
            rw [w_lt (num2 hk) (f2_fit hk hy) (by omega)]
            exact w_eq (num1 hk) (f1_fit hk hy)
          · rw [if_neg q2]
            have q2' : i.toInt ≠ (k + 1).toInt := fun e => q2 (Int32.toInt_inj.mp e)
            have e3 : i.toNatClampNeg = k.toNatClampNeg + 1 + 1 := by omega
            rw [e3]
            exact w_eq (num2 hk) (f2_fit hk hy)
    · rw [if_neg h1]
theorem at_in (hk : ¬ k < 0 ∧ k.toNatClampNeg ≤ 32) (hy : ys.length = 32) {i : Int32} : ¬ i < 0 → i < k → inR ys i = true := fun h0 h1 => by
  rw [inR_iff]; refine ⟨h0, ?_⟩
  rw [Int32.lt_iff_toInt_lt, own_int h0, own_int hk.1] at h1; omega
end Law
theorem pd_8 : parseMethodDescriptor "([BII)V" = some ⟨[(.array .byte), .int, .int], none⟩ := by decide +kernel
theorem pd_9 : parseMethodDescriptor "()I" = some ⟨[], some .int⟩ := by decide +kernel
theorem pd_10 : parseMethodDescriptor "()[B" = some ⟨[], some (.array .byte)⟩ := by decide +kernel
theorem pd_11 : parseMethodDescriptor "([BII[BIII)Z" = some ⟨[(.array .byte), .int, .int, (.array .byte), .int, .int, .int], some .boolean⟩ := by decide +kernel
theorem ef_law (m : MethodId) (xk : Int32) (x1 : Int32) (x2 : Int32) (x3 : Int32) (xp : Int32) (xq : Int32) : entryFrame m #[(.int xk), (.int x1), (.int x2), (.int x3), (.int xp), (.int xq)] maxLocals = mkF m 0 #[.val (.int xk), .val (.int x1), .val (.int x2), .val (.int x3), .val (.int xp), .val (.int xq), .unset, .unset, .unset, .unset, .unset] [] := by first | (simp [entryFrame, mkF, argsToLocals, Value.category, maxLocals]; done) | rfl
def Q_law (Z : State) (xk : Int32) (x1 : Int32) (x2 : Int32) (x3 : Int32) (xp : Int32) (xq : Int32) (h0 : Heap) (n0 : Nat) (v : Option Value) (h : Heap) (L : List Loc) : Prop := v = some (.int (1 : Int32)) ∧ Fr n0 L ∧ True
set_option maxRecDepth 65536 in
set_option maxHeartbeats 40000000 in
theorem rm_law (l : Launch) (Z : State) (a0 : Array Value) (hw : ∀ d ∈ tables_1, d.before a0 Z = true) (ws : List Jvm.Cond) (xk : Int32) (x1 : Int32) (x2 : Int32) (x3 : Int32) (xp : Int32) (xq : Int32) (h0 : Heap) (n0 : Nat) (Z0 : n0 ≤ h0.size) :
    MetFree l x (head1 (Jvm.Cond.code x code maxLocals ret :: ws) room_1) (fun a U => a = #[(.int xk), (.int x1), (.int x2), (.int x3), (.int xp), (.int xq)] ∧ Z.Warmed39 U.vm ∧ U.heap = h0) (fun _ _ _ _ _ => True) (fun _ U o U' => ∃ v L, o = .returned v ∧ Q_law Z xk x1 x2 x3 xp xq h0 n0 v U'.heap L ∧ FrameEnd U o U' L room_1.cells room_1.slots) := by
  refine MetFree.of_bodySF (plainFor_of_name pn_6) hisR ?_
  intro p e s m args below meth c s₁ Bd hml0 hP hK
  obtain ⟨rfl, hZ, hh⟩ := hP
  have hx := Bd.exec
  have hby := Bd.bytes
  have hml : c.maxLocals = 11 := hml0
  have hown : s.vm.findClass "com/example/driftstone/driftstone/core/RecordOutputWritePinLaw" = some m.cls := findClass_of_methodNamed Bd.named
  have hnm := (name_of_methodNamed Bd.named Bd.method).1
  have X0 : Stand p l e room_1 s m #[(.int xk), (.int x1), (.int x2), (.int x3), (.int xp), (.int xq)] below meth c s₁ [] 0 0 := Stand.of_body Bd
  have e0 : s₁.heap = h0 := by rw [← hh, Bd.state]; rfl
  have N0 := Fr.nil n0
  have pre0 : ∀ t, Steps p.tables e below (s₁.setTop (mkF m 0 #[.val (.int xk), .val (.int x1), .val (.int x2), .val (.int x3), .val (.int xp), .val (.int xq), .unset, .unset, .unset, .unset, .unset] [])) t → Steps p.tables e below (s₁.setTop (entryFrame m #[(.int xk), (.int x1), (.int x2), (.int x3), (.int xp), (.int xq)] maxLocals)) t := fun t k => castTop (ef_law m xk x1 x2 x3 xp xq) k
  have hk := k_rng xk
  have hy := ys_len xp xq
  have one := fun i => at_one (b1 := x1) (b2 := x2) (b3 := x3) hk hy i
  have one0 : ∀ i, ¬ atF (zsF (kF xk) (ysF xp xq) x1 x2 x3) i (kF xk) (ysF xp xq) x1 x2 x3 = (0 : Int32) := fun i q => by rw [one i] at q; exact absurd q (by decide)
  obtain ⟨T1, h1, k1, X1, e1, E1, A1, B1, st1⟩ := newPE X0 hx hZ (hw _ (List.mem_of_getElem? (i := 1) rfl)) e0 (g := (mkF m 11 #[.val (.int xk), .val (.int x1), .val (.int x2), .val (.int x3), .val (.int xp), .val (.int xq), .val (.int (kF xk)), .unset, .unset, .unset, .unset] [(.int (32 : Int32))])) rfl (hb hby at_11) rfl (by decide) (cap := 32) (by decide) (by decide) (by decide) (by decide) (ad := "[B") (by decide)
  obtain ⟨b1, g1⟩ : ∃ z, z = h0.size := ⟨_, rfl⟩
  rw [← g1] at A1 B1 st1
  have g_b1 : n0 ≤ b1 := Nat.le_trans Z0 (Nat.le_of_eq g1.symm)
  have V_b1 : BA Z h1 b1 (List.replicate 32 0) := BA.new 32 A1 B1 (by decide) rfl
  obtain ⟨cl2, Ar2, hin2, -, u2⟩ := V_b1.rd (j := (0 : Int32)) (by decide)
  obtain ⟨T2, h2, X2, e2, W2, st2⟩ := stB X1 hx hZ e1 Ar2 (j := (0 : Int32)) hin2 (g := (mkF m 21 #[.val (.int xk), .val (.int x1), .val (.int x2), .val (.int x3), .val (.int xp), .val (.int xq), .val (.int (kF xk)), .val (.ref b1), .unset, .unset, .unset] [(.int (xp.toInt8.toInt32)), (.int (0 : Int32)), (.ref b1)])) rfl rfl (hb hby at_21)
  have A2_b1 := (show BA Z h2 b1 (sI (List.replicate 32 0) (0 : Int32) (nar .byte (xp.toInt8.toInt32))) from u2 _ _ W2)
  have N2 := Fr.snoc X2 N0 g_b1
  obtain ⟨cl3, Ar3, hin3, -, u3⟩ := A2_b1.rd (j := (16 : Int32)) (inR_sI (by decide))
  obtain ⟨T3, h3, X3, e3, W3, st3⟩ := stB X2 hx hZ e2 Ar3 (j := (16 : Int32)) hin3 (g := (mkF m 32 #[.val (.int xk), .val (.int x1), .val (.int x2), .val (.int x3), .val (.int xp), .val (.int xq), .val (.int (kF xk)), .val (.ref b1), .unset, .unset, .unset] [(.int ((xp >>> ((8 : Int32) &&& 31)).toInt8.toInt32)), (.int (16 : Int32)), (.ref b1)])) rfl rfl (hb hby at_32)
  have A3_b1 := (show BA Z h3 b1 (sI (sI (List.replicate 32 0) (0 : Int32) (nar .byte (xp.toInt8.toInt32))) (16 : Int32) (nar .byte ((xp >>> ((8 : Int32) &&& 31)).toInt8.toInt32))) from u3 _ _ W3)
  have N3 := Fr.snoc X3 N2 g_b1
  obtain ⟨cl4, Ar4, hin4, -, u4⟩ := A3_b1.rd (j := (31 : Int32)) (inR_sI (inR_sI (by decide)))
  obtain ⟨T4, h4, X4, e4, W4, st4⟩ := stB X3 hx hZ e3 Ar4 (j := (31 : Int32)) hin4 (g := (mkF m 40 #[.val (.int xk), .val (.int x1), .val (.int x2), .val (.int x3), .val (.int xp), .val (.int xq), .val (.int (kF xk)), .val (.ref b1), .unset, .unset, .unset] [(.int (xq.toInt8.toInt32)), (.int (31 : Int32)), (.ref b1)])) rfl rfl (hb hby at_40)
  have A4_b1 := (show BA Z h4 b1 (ysF xp xq) from u4 _ _ W4)
  have N4 := Fr.snoc X4 N3 g_b1
  obtain ⟨T5, h5, X5, e5, E5, A5, D5, U5, st5⟩ := newO X4 hx hZ hown (hw _ (List.mem_of_getElem? (i := 2) rfl)) (hw _ (List.mem_of_getElem? (i := 3) rfl)) (hw _ (List.mem_of_getElem? (i := 4) rfl)) e4 (g := (mkF m 41 #[.val (.int xk), .val (.int x1), .val (.int x2), .val (.int x3), .val (.int xp), .val (.int xq), .val (.int (kF xk)), .val (.ref b1), .unset, .unset, .unset] [])) rfl (hb hby at_41) (by decide) (by decide)
  obtain ⟨b5, g5⟩ : ∃ z, z = h4.size := ⟨_, rfl⟩
  rw [← g5] at A5 D5 U5 st5
  have g_b5 : n0 ≤ b5 := Nat.le_trans (Nat.le_trans (Nat.le_trans (Nat.le_trans (Nat.le_trans Z0 E1.1) (Keep.of_wr W2).1) (Keep.of_wr W3).1) (Keep.of_wr W4).1) (Nat.le_of_eq g5.symm)
  have Uo5 : Unt h5 b5 := U5
  have A5_b1 := A4_b1.ext E5
  have Fn_buf : Fld Z h5 b5 "java/io/ByteArrayOutputStream" "buf" "[B" .null := D5 (Or.inl (hw _ (List.mem_of_getElem? (i := 27) rfl))) (ty := (.array .byte)) (by decide)
  have Fn_count : Fld Z h5 b5 "java/io/ByteArrayOutputStream" "count" "I" (.int (0 : Int32)) := D5 (Or.inl (hw _ (List.mem_of_getElem? (i := 43) rfl))) (ty := .int) (by decide)
  obtain ⟨_, _, ⟨T6, L6, k6, n6⟩, -, X6, ⟨Lc6, hQ6, l6, y6, z6⟩, st6⟩ := X5.specialBack hx (y := (⟨"com/example/driftstone/driftstone/core/RecordOutput", "<init>", "()V"⟩ : MethodName)) rfl hown (mvT hZ (hw _ (List.mem_of_getElem? (i := 5) rfl))) (mvT hZ (hw _ (List.mem_of_getElem? (i := 6) rfl))) (mvT hZ (hw _ (List.mem_of_getElem? (i := 7) rfl))) (by decide) (backOf (W := 1) (rm_ri l Z a0 hw [] b5 b1 (ysF xp xq) h5 n0 (Nat.le_trans (Nat.le_trans (Nat.le_trans (Nat.le_trans (Nat.le_trans Z0 E1.1) (Keep.of_wr W2).1) (Keep.of_wr W3).1) (Keep.of_wr W4).1) E5.1) A5 Uo5 g_b5 Fn_buf Fn_count A5_b1) hZ (hw _ (List.mem_of_getElem? (i := 7) rfl)) (hw _ (List.mem_of_getElem? (i := 4) rfl)) (by decide) (by decide)) (g := (mkF m 45 #[.val (.int xk), .val (.int x1), .val (.int x2), .val (.int x3), .val (.int xp), .val (.int xq), .val (.int (kF xk)), .val (.ref b1), .unset, .unset, .unset] [(.ref b5), (.ref b5)])) rfl (by rw [hml]; rfl) (Steps.refl _) (a := b5) (argsL := []) (rest := [(.ref b5)]) (lenOf pd_0 rfl) rfl (by show 2 * 0 + _ ≤ _; exact Nat.le_of_eq rfl) (hb hby at_45) (fun _ _ => ⟨rfl, e5, (by decide : 2 + 1 ≤ _), (by decide : 34 + 32 ≤ _)⟩)
  dsimp only [Pt.U, Pt.locs, Pt.cells, Pt.slots] at X6 l6 y6 z6 st6 hQ6
  subst l6 y6 z6
  obtain ⟨rfl, N6q, hq6⟩ := hQ6
  have N6 := Fr.app N4 N6q
  have hS6 : RO Z n0 T6.heap b5 b1 (List.replicate 32 0) 0 (ysF xp xq) := hq6
  obtain ⟨cq7, kq7, q7a, q7b, q7c⟩ := isOf hZ rfl (hS6.exa)
  obtain ⟨_, _, ⟨T7, L7, k7, n7⟩, -, X7, ⟨Lc7, hQ7, l7, y7, z7⟩, st7⟩ := X6.virtualBackUp hx (x := (⟨"com/example/driftstone/driftstone/core/RecordOutput", "write", "([BII)V"⟩ : MethodName)) (y := (⟨"java/io/ByteArrayOutputStream", "write", "([BII)V"⟩ : MethodName)) hown (mvT hZ (hw _ (List.mem_of_getElem? (i := 28) rfl))) (mvT hZ (hw _ (List.mem_of_getElem? (i := 29) rfl))) (mvT hZ (hw _ (List.mem_of_getElem? (i := 30) rfl))) (by decide) (mvT hZ (hw _ (List.mem_of_getElem? (i := 32) rfl))) (mvT hZ (hw _ (List.mem_of_getElem? (i := 31) rfl))) (backS (W := 0) (rm_wn l Z a0 hw [Cond.instanceMethod (⟨"java/io/ByteArrayOutputStream", "write", "([BII)V"⟩ : MethodName)] (List.mem_cons_self ..) b5 b1 (kF xk) (List.replicate 32 0) (ysF xp xq) T6.heap n0 hS6.size hS6 (List.length_replicate ..) hy hk.1 hk.2) hZ (hw _ (List.mem_of_getElem? (i := 33) rfl)) (hw _ (List.mem_of_getElem? (i := 31) rfl)) (hw _ (List.mem_of_getElem? (i := 11) rfl)) hS6.unt (by decide) (by decide)) q7a q7c (g := (mkF m 57 #[.val (.int xk), .val (.int x1), .val (.int x2), .val (.int x3), .val (.int xp), .val (.int xq), .val (.int (kF xk)), .val (.ref b1), .val (.ref b5), .unset, .unset] [(.int (kF xk)), (.int (0 : Int32)), (.ref b1), (.ref b5)])) rfl (by rw [hml]; rfl) (Steps.refl _) (argsL := [(.ref b1), (.int (0 : Int32)), (.int (kF xk))]) (rest := []) (lenOf pd_8 rfl) rfl (by show 2 * 0 + _ ≤ _; exact Nat.le_of_eq rfl) (hb hby at_57) (fun _ _ => ⟨rfl, rfl, (by decide : 3 + 0 ≤ _), (by decide : 66 + 0 ≤ _)⟩)
  dsimp only [Pt.U, Pt.locs, Pt.cells, Pt.slots] at X7 l7 y7 z7 st7 hQ7
  subst l7 y7 z7
  obtain ⟨rfl, N7q, hq7⟩ := hQ7
  have N7 := Fr.app N6 N7q
  have hS7 : RO Z n0 T7.heap b5 b1 (f0F (kF xk) (ysF xp xq)) ((0 : Int32) + (kF xk)) (ysF xp xq) := hq7
  obtain ⟨cq8, kq8, q8a, q8b, q8c⟩ := isOf hZ rfl (hS7.exa)
  obtain ⟨_, _, ⟨T8, L8, k8, n8⟩, -, X8, ⟨Lc8, hQ8, l8, y8, z8⟩, st8⟩ := X7.virtualBack hx (y := (⟨"com/example/driftstone/driftstone/core/RecordOutput", "write", "(I)V"⟩ : MethodName)) (z := (⟨"com/example/driftstone/driftstone/core/RecordOutput", "write", "(I)V"⟩ : MethodName)) hown (mvT hZ (hw _ (List.mem_of_getElem? (i := 53) rfl))) (mvT hZ (hw _ (List.mem_of_getElem? (i := 54) rfl))) (notFace_of_selects (args := #[]) (mvT hZ (hw _ (List.mem_of_getElem? (i := 56) rfl)))) (mvT hZ (hw _ (List.mem_of_getElem? (i := 56) rfl))) (mvT hZ (hw _ (List.mem_of_getElem? (i := 55) rfl))) (by decide) (backOf (W := 0) (rm_w1 l Z a0 hw [] b5 x1 b1 (f0F (kF xk) (ysF xp xq)) ((0 : Int32) + (kF xk)) (ysF xp xq) T7.heap n0 hS7.size hS7 (fit_hg (num0 hk) (f0_fit hk hy)) (fit_in (num0 hk) (f0_fit hk hy))) hZ (hw _ (List.mem_of_getElem? (i := 57) rfl)) (hw _ (List.mem_of_getElem? (i := 4) rfl)) (by decide) (by decide)) q8a q8c (g := (mkF m 63 #[.val (.int xk), .val (.int x1), .val (.int x2), .val (.int x3), .val (.int xp), .val (.int xq), .val (.int (kF xk)), .val (.ref b1), .val (.ref b5), .unset, .unset] [(.int x1), (.ref b5)])) rfl (by rw [hml]; rfl) (Steps.refl _) (argsL := [(.int x1)]) (rest := []) (lenOf pd_1 rfl) rfl (by show 2 * 0 + _ ≤ _; exact Nat.le_of_eq rfl) (hb hby at_63) (fun _ _ => ⟨rfl, rfl, (by decide : 3 + 1 ≤ _), (by decide : 66 + 128 ≤ _)⟩)
  dsimp only [Pt.U, Pt.locs, Pt.cells, Pt.slots] at X8 l8 y8 z8 st8 hQ8
  subst l8 y8 z8
  obtain ⟨rfl, N8q, hq8⟩ := hQ8
  have N8 := Fr.app N7 N8q
  have hS8 : RO Z n0 T8.heap b5 b1 (f1F (kF xk) (ysF xp xq) x1) (c1F (kF xk)) (ysF xp xq) := hq8
  obtain ⟨cq9, kq9, q9a, q9b, q9c⟩ := isOf hZ rfl (hS8.exa)
  obtain ⟨_, _, ⟨T9, L9, k9, n9⟩, -, X9, ⟨Lc9, hQ9, l9, y9, z9⟩, st9⟩ := X8.virtualBack hx (y := (⟨"com/example/driftstone/driftstone/core/RecordOutput", "write", "(I)V"⟩ : MethodName)) (z := (⟨"com/example/driftstone/driftstone/core/RecordOutput", "write", "(I)V"⟩ : MethodName)) hown (mvT hZ (hw _ (List.mem_of_getElem? (i := 53) rfl))) (mvT hZ (hw _ (List.mem_of_getElem? (i := 54) rfl))) (notFace_of_selects (args := #[]) (mvT hZ (hw _ (List.mem_of_getElem? (i := 56) rfl)))) (mvT hZ (hw _ (List.mem_of_getElem? (i := 56) rfl))) (mvT hZ (hw _ (List.mem_of_getElem? (i := 55) rfl))) (by decide) (backOf (W := 0) (rm_w1 l Z a0 hw [] b5 x2 b1 (f1F (kF xk) (ysF xp xq) x1) (c1F (kF xk)) (ysF xp xq) T8.heap n0 hS8.size hS8 (fit_hg (num1 hk) (f1_fit hk hy)) (fit_in (num1 hk) (f1_fit hk hy))) hZ (hw _ (List.mem_of_getElem? (i := 57) rfl)) (hw _ (List.mem_of_getElem? (i := 4) rfl)) (by decide) (by decide)) q9a q9c (g := (mkF m 69 #[.val (.int xk), .val (.int x1), .val (.int x2), .val (.int x3), .val (.int xp), .val (.int xq), .val (.int (kF xk)), .val (.ref b1), .val (.ref b5), .unset, .unset] [(.int x2), (.ref b5)])) rfl (by rw [hml]; rfl) (Steps.refl _) (argsL := [(.int x2)]) (rest := []) (lenOf pd_1 rfl) rfl (by show 2 * 0 + _ ≤ _; exact Nat.le_of_eq rfl) (hb hby at_69) (fun _ _ => ⟨rfl, rfl, (by decide : 4 + 1 ≤ _), (by decide : 194 + 128 ≤ _)⟩)
  dsimp only [Pt.U, Pt.locs, Pt.cells, Pt.slots] at X9 l9 y9 z9 st9 hQ9
  subst l9 y9 z9
  obtain ⟨rfl, N9q, hq9⟩ := hQ9
  have N9 := Fr.app N8 N9q
  have hS9 : RO Z n0 T9.heap b5 b1 (f2F (kF xk) (ysF xp xq) x1 x2) (c2F (kF xk)) (ysF xp xq) := hq9
  obtain ⟨cq10, kq10, q10a, q10b, q10c⟩ := isOf hZ rfl (hS9.exa)
  obtain ⟨_, _, ⟨T10, L10, k10, n10⟩, -, X10, ⟨Lc10, hQ10, l10, y10, z10⟩, st10⟩ := X9.virtualBack hx (y := (⟨"com/example/driftstone/driftstone/core/RecordOutput", "write", "(I)V"⟩ : MethodName)) (z := (⟨"com/example/driftstone/driftstone/core/RecordOutput", "write", "(I)V"⟩ : MethodName)) hown (mvT hZ (hw _ (List.mem_of_getElem? (i := 53) rfl))) (mvT hZ (hw _ (List.mem_of_getElem? (i := 54) rfl))) (notFace_of_selects (args := #[]) (mvT hZ (hw _ (List.mem_of_getElem? (i := 56) rfl)))) (mvT hZ (hw _ (List.mem_of_getElem? (i := 56) rfl))) (mvT hZ (hw _ (List.mem_of_getElem? (i := 55) rfl))) (by decide) (backOf (W := 0) (rm_w1 l Z a0 hw [] b5 x3 b1 (f2F (kF xk) (ysF xp xq) x1 x2) (c2F (kF xk)) (ysF xp xq) T9.heap n0 hS9.size hS9 (fit_hg (num2 hk) (f2_fit hk hy)) (fit_in (num2 hk) (f2_fit hk hy))) hZ (hw _ (List.mem_of_getElem? (i := 57) rfl)) (hw _ (List.mem_of_getElem? (i := 4) rfl)) (by decide) (by decide)) q10a q10c (g := (mkF m 75 #[.val (.int xk), .val (.int x1), .val (.int x2), .val (.int x3), .val (.int xp), .val (.int xq), .val (.int (kF xk)), .val (.ref b1), .val (.ref b5), .unset, .unset] [(.int x3), (.ref b5)])) rfl (by rw [hml]; rfl) (Steps.refl _) (argsL := [(.int x3)]) (rest := []) (lenOf pd_1 rfl) rfl (by show 2 * 0 + _ ≤ _; exact Nat.le_of_eq rfl) (hb hby at_75) (fun _ _ => ⟨rfl, rfl, (by decide : 5 + 1 ≤ _), (by decide : 322 + 128 ≤ _)⟩)
  dsimp only [Pt.U, Pt.locs, Pt.cells, Pt.slots] at X10 l10 y10 z10 st10 hQ10
  subst l10 y10 z10
  obtain ⟨rfl, N10q, hq10⟩ := hQ10
  have N10 := Fr.app N9 N10q
  have hS10 : RO Z n0 T10.heap b5 b1 (f3F (kF xk) (ysF xp xq) x1 x2 x3) (c3F (kF xk)) (ysF xp xq) := hq10
  obtain ⟨cq11, kq11, q11a, q11b, q11c⟩ := isOf hZ rfl (hS10.exa)
  obtain ⟨_, _, ⟨T11, L11, k11, n11⟩, -, X11, ⟨Lc11, hQ11, l11, y11, z11⟩, st11⟩ := X10.virtualBackUp hx (x := (⟨"com/example/driftstone/driftstone/core/RecordOutput", "size", "()I"⟩ : MethodName)) (y := (⟨"java/io/ByteArrayOutputStream", "size", "()I"⟩ : MethodName)) hown (mvT hZ (hw _ (List.mem_of_getElem? (i := 62) rfl))) (mvT hZ (hw _ (List.mem_of_getElem? (i := 63) rfl))) (mvT hZ (hw _ (List.mem_of_getElem? (i := 64) rfl))) (by decide) (mvT hZ (hw _ (List.mem_of_getElem? (i := 66) rfl))) (mvT hZ (hw _ (List.mem_of_getElem? (i := 65) rfl))) (backS (W := 0) (rm_size l Z a0 hw [Cond.instanceMethod (⟨"java/io/ByteArrayOutputStream", "size", "()I"⟩ : MethodName)] (List.mem_cons_self ..) b5 b1 (f3F (kF xk) (ysF xp xq) x1 x2 x3) (c3F (kF xk)) (ysF xp xq) T10.heap n0 hS10.size hS10) hZ (hw _ (List.mem_of_getElem? (i := 67) rfl)) (hw _ (List.mem_of_getElem? (i := 65) rfl)) (hw _ (List.mem_of_getElem? (i := 11) rfl)) hS10.unt (by decide) (by decide)) q11a q11c (g := (mkF m 80 #[.val (.int xk), .val (.int x1), .val (.int x2), .val (.int x3), .val (.int xp), .val (.int xq), .val (.int (kF xk)), .val (.ref b1), .val (.ref b5), .unset, .unset] [(.ref b5)])) rfl (by rw [hml]; rfl) (Steps.refl _) (argsL := []) (rest := []) (lenOf pd_9 rfl) rfl (by show 2 * 0 + _ ≤ _; exact Nat.le_of_eq rfl) (hb hby at_80) (fun _ _ => ⟨rfl, rfl, (by decide : 6 + 0 ≤ _), (by decide : 450 + 0 ≤ _)⟩)
  dsimp only [Pt.U, Pt.locs, Pt.cells, Pt.slots] at X11 l11 y11 z11 st11 hQ11
  subst l11 y11 z11
  obtain ⟨rfl, N11q, hq11⟩ := hQ11
  have N11 := Fr.app N10 N11q
  have hS11 : RO Z n0 T11.heap b5 b1 (f3F (kF xk) (ysF xp xq) x1 x2 x3) (c3F (kF xk)) (ysF xp xq) := hq11
  obtain ⟨cq12, kq12, q12a, q12b, q12c⟩ := isOf hZ rfl (hS11.exa)
  obtain ⟨_, _, ⟨T12, L12, k12, n12⟩, -, X12, ⟨Lc12, hQ12, l12, y12, z12⟩, st12⟩ := X11.virtualBackUp hx (x := (⟨"com/example/driftstone/driftstone/core/RecordOutput", "toByteArray", "()[B"⟩ : MethodName)) (y := (⟨"java/io/ByteArrayOutputStream", "toByteArray", "()[B"⟩ : MethodName)) hown (mvT hZ (hw _ (List.mem_of_getElem? (i := 68) rfl))) (mvT hZ (hw _ (List.mem_of_getElem? (i := 69) rfl))) (mvT hZ (hw _ (List.mem_of_getElem? (i := 70) rfl))) (by decide) (mvT hZ (hw _ (List.mem_of_getElem? (i := 72) rfl))) (mvT hZ (hw _ (List.mem_of_getElem? (i := 71) rfl))) (backS (W := 0) (rm_tob l Z a0 hw [Cond.instanceMethod (⟨"java/io/ByteArrayOutputStream", "toByteArray", "()[B"⟩ : MethodName)] (List.mem_cons_self ..) b5 b1 (f3F (kF xk) (ysF xp xq) x1 x2 x3) (c3F (kF xk)) (ysF xp xq) T11.heap n0 hS11.size hS11 (num3 hk).1 (by rw [(num3 hk).2]; omega)) hZ (hw _ (List.mem_of_getElem? (i := 73) rfl)) (hw _ (List.mem_of_getElem? (i := 71) rfl)) (hw _ (List.mem_of_getElem? (i := 11) rfl)) hS11.unt (by decide) (by decide)) q12a q12c (g := (mkF m 87 #[.val (.int xk), .val (.int x1), .val (.int x2), .val (.int x3), .val (.int xp), .val (.int xq), .val (.int (kF xk)), .val (.ref b1), .val (.ref b5), .val (.int (c3F (kF xk))), .unset] [(.ref b5)])) rfl (by rw [hml]; rfl) (Steps.refl _) (argsL := []) (rest := []) (lenOf pd_10 rfl) rfl (by show 2 * 0 + _ ≤ _; exact Nat.le_of_eq rfl) (hb hby at_87) (fun _ _ => ⟨rfl, rfl, (by decide : 6 + 1 ≤ _), (by decide : 450 + 36 ≤ _)⟩)
  dsimp only [Pt.U, Pt.locs, Pt.cells, Pt.slots] at X12 l12 y12 z12 st12 hQ12
  subst l12 y12 z12
  obtain ⟨rfl, N12q, Ao12, Ar12⟩ := hQ12
  have N12 := Fr.app N11 N12q
  obtain ⟨b12, g12⟩ : ∃ z, z = T11.heap.size := ⟨_, rfl⟩
  rw [← g12] at Ao12 st12
  have Az12 : BA Z T12.heap b12 (zsF (kF xk) (ysF xp xq) x1 x2 x3) := Ao12
  have Zs12 : n0 ≤ T12.heap.size := Nat.le_trans (Nat.le_trans hS11.size (Nat.le_of_eq g12.symm)) (Nat.le_of_lt Az12.lt)
  obtain ⟨cl13, Ar13, ln13⟩ := Az12.ln
  obtain ⟨_, _, ⟨T14, L14, k14, n14⟩, -, X14, ⟨Lc14, hQ14, l14, y14, z14⟩, st14⟩ := Jvm.LawKit.callS X12 hx (y := (⟨"com/example/driftstone/driftstone/core/RecordOutputWritePinLaw", "at", "([BII[BIII)Z"⟩ : MethodName)) hown (mvT hZ (hw _ (List.mem_of_getElem? (i := 83) rfl))) (mvT hZ (hw _ (List.mem_of_getElem? (i := 84) rfl))) (mvT hZ (hw _ (List.mem_of_getElem? (i := 85) rfl))) (mvT hZ (hw _ (List.mem_of_getElem? (i := 86) rfl))) (by decide) (backOf (W := 0) (rm_at l Z a0 hw [] b12 (0 : Int32) (kF xk) b1 x1 x2 x3 (zsF (kF xk) (ysF xp xq) x1 x2 x3) (ysF xp xq) T12.heap n0 Zs12 Az12 Ar12 (at_in hk hy)) hZ (hw _ (List.mem_of_getElem? (i := 86) rfl)) (hw _ (List.mem_of_getElem? (i := 85) rfl)) (by decide) (by decide)) (g := (mkF m 123 #[.val (.int xk), .val (.int x1), .val (.int x2), .val (.int x3), .val (.int xp), .val (.int xq), .val (.int (kF xk)), .val (.ref b1), .val (.ref b5), .val (.int (c3F (kF xk))), .val (.ref b12)] [(.int x3), (.int x2), (.int x1), (.ref b1), (.int (kF xk)), (.int (0 : Int32)), (.ref b12)])) rfl (by rw [hml]; rfl) (argsL := [(.ref b12), (.int (0 : Int32)), (.int (kF xk)), (.ref b1), (.int x1), (.int x2), (.int x3)]) (rest := []) (lenOf pd_11 rfl) rfl (by show 2 * 0 + _ ≤ _; exact Nat.le_of_eq rfl) (hb hby at_123) (fun _ _ => ⟨rfl, rfl, (by decide : 7 + 0 ≤ _), (by decide : 486 + 0 ≤ _)⟩)
  dsimp only [Pt.U, Pt.locs, Pt.cells, Pt.slots] at X14 l14 y14 z14 st14 hQ14
  subst l14 y14 z14
  obtain ⟨rfl, N14q, e14⟩ := hQ14
  have N14 := Fr.app N12 N14q
  obtain ⟨_, _, ⟨T15, L15, k15, n15⟩, -, X15, ⟨Lc15, hQ15, l15, y15, z15⟩, st15⟩ := Jvm.LawKit.callS X14 hx (y := (⟨"com/example/driftstone/driftstone/core/RecordOutputWritePinLaw", "at", "([BII[BIII)Z"⟩ : MethodName)) hown (mvT hZ (hw _ (List.mem_of_getElem? (i := 83) rfl))) (mvT hZ (hw _ (List.mem_of_getElem? (i := 84) rfl))) (mvT hZ (hw _ (List.mem_of_getElem? (i := 85) rfl))) (mvT hZ (hw _ (List.mem_of_getElem? (i := 86) rfl))) (by decide) (backOf (W := 0) (rm_at l Z a0 hw [] b12 (16 : Int32) (kF xk) b1 x1 x2 x3 (zsF (kF xk) (ysF xp xq) x1 x2 x3) (ysF xp xq) T12.heap n0 Zs12 Az12 Ar12 (at_in hk hy)) hZ (hw _ (List.mem_of_getElem? (i := 86) rfl)) (hw _ (List.mem_of_getElem? (i := 85) rfl)) (by decide) (by decide)) (g := (mkF m 140 #[.val (.int xk), .val (.int x1), .val (.int x2), .val (.int x3), .val (.int xp), .val (.int xq), .val (.int (kF xk)), .val (.ref b1), .val (.ref b5), .val (.int (c3F (kF xk))), .val (.ref b12)] [(.int x3), (.int x2), (.int x1), (.ref b1), (.int (kF xk)), (.int (16 : Int32)), (.ref b12)])) rfl (by rw [hml]; rfl) (argsL := [(.ref b12), (.int (16 : Int32)), (.int (kF xk)), (.ref b1), (.int x1), (.int x2), (.int x3)]) (rest := []) (lenOf pd_11 rfl) rfl (by show 2 * 0 + _ ≤ _; exact Nat.le_of_eq rfl) (hb hby at_140) (fun _ _ => ⟨rfl, e14, (by decide : 7 + 0 ≤ _), (by decide : 486 + 0 ≤ _)⟩)
  dsimp only [Pt.U, Pt.locs, Pt.cells, Pt.slots] at X15 l15 y15 z15 st15 hQ15
  subst l15 y15 z15
  obtain ⟨rfl, N15q, e15⟩ := hQ15
  have N15 := Fr.app N14 N15q
  obtain ⟨_, _, ⟨T16, L16, k16, n16⟩, -, X16, ⟨Lc16, hQ16, l16, y16, z16⟩, st16⟩ := Jvm.LawKit.callS X15 hx (y := (⟨"com/example/driftstone/driftstone/core/RecordOutputWritePinLaw", "at", "([BII[BIII)Z"⟩ : MethodName)) hown (mvT hZ (hw _ (List.mem_of_getElem? (i := 83) rfl))) (mvT hZ (hw _ (List.mem_of_getElem? (i := 84) rfl))) (mvT hZ (hw _ (List.mem_of_getElem? (i := 85) rfl))) (mvT hZ (hw _ (List.mem_of_getElem? (i := 86) rfl))) (by decide) (backOf (W := 0) (rm_at l Z a0 hw [] b12 (31 : Int32) (kF xk) b1 x1 x2 x3 (zsF (kF xk) (ysF xp xq) x1 x2 x3) (ysF xp xq) T12.heap n0 Zs12 Az12 Ar12 (at_in hk hy)) hZ (hw _ (List.mem_of_getElem? (i := 86) rfl)) (hw _ (List.mem_of_getElem? (i := 85) rfl)) (by decide) (by decide)) (g := (mkF m 157 #[.val (.int xk), .val (.int x1), .val (.int x2), .val (.int x3), .val (.int xp), .val (.int xq), .val (.int (kF xk)), .val (.ref b1), .val (.ref b5), .val (.int (c3F (kF xk))), .val (.ref b12)] [(.int x3), (.int x2), (.int x1), (.ref b1), (.int (kF xk)), (.int (31 : Int32)), (.ref b12)])) rfl (by rw [hml]; rfl) (argsL := [(.ref b12), (.int (31 : Int32)), (.int (kF xk)), (.ref b1), (.int x1), (.int x2), (.int x3)]) (rest := []) (lenOf pd_11 rfl) rfl (by show 2 * 0 + _ ≤ _; exact Nat.le_of_eq rfl) (hb hby at_157) (fun _ _ => ⟨rfl, e15, (by decide : 7 + 0 ≤ _), (by decide : 486 + 0 ≤ _)⟩)
  dsimp only [Pt.U, Pt.locs, Pt.cells, Pt.slots] at X16 l16 y16 z16 st16 hQ16
  subst l16 y16 z16
  obtain ⟨rfl, N16q, e16⟩ := hQ16
  have N16 := Fr.app N15 N16q
  obtain ⟨_, _, ⟨T17, L17, k17, n17⟩, -, X17, ⟨Lc17, hQ17, l17, y17, z17⟩, st17⟩ := Jvm.LawKit.callS X16 hx (y := (⟨"com/example/driftstone/driftstone/core/RecordOutputWritePinLaw", "at", "([BII[BIII)Z"⟩ : MethodName)) hown (mvT hZ (hw _ (List.mem_of_getElem? (i := 83) rfl))) (mvT hZ (hw _ (List.mem_of_getElem? (i := 84) rfl))) (mvT hZ (hw _ (List.mem_of_getElem? (i := 85) rfl))) (mvT hZ (hw _ (List.mem_of_getElem? (i := 86) rfl))) (by decide) (backOf (W := 0) (rm_at l Z a0 hw [] b12 ((kF xk) - (1 : Int32)) (kF xk) b1 x1 x2 x3 (zsF (kF xk) (ysF xp xq) x1 x2 x3) (ysF xp xq) T12.heap n0 Zs12 Az12 Ar12 (at_in hk hy)) hZ (hw _ (List.mem_of_getElem? (i := 86) rfl)) (hw _ (List.mem_of_getElem? (i := 85) rfl)) (by decide) (by decide)) (g := (mkF m 176 #[.val (.int xk), .val (.int x1), .val (.int x2), .val (.int x3), .val (.int xp), .val (.int xq), .val (.int (kF xk)), .val (.ref b1), .val (.ref b5), .val (.int (c3F (kF xk))), .val (.ref b12)] [(.int x3), (.int x2), (.int x1), (.ref b1), (.int (kF xk)), (.int ((kF xk) - (1 : Int32))), (.ref b12)])) rfl (by rw [hml]; rfl) (argsL := [(.ref b12), (.int ((kF xk) - (1 : Int32))), (.int (kF xk)), (.ref b1), (.int x1), (.int x2), (.int x3)]) (rest := []) (lenOf pd_11 rfl) rfl (by show 2 * 0 + _ ≤ _; exact Nat.le_of_eq rfl) (hb hby at_176) (fun _ _ => ⟨rfl, e16, (by decide : 7 + 0 ≤ _), (by decide : 486 + 0 ≤ _)⟩)
  dsimp only [Pt.U, Pt.locs, Pt.cells, Pt.slots] at X17 l17 y17 z17 st17 hQ17
  subst l17 y17 z17
  obtain ⟨rfl, N17q, e17⟩ := hQ17
  have N17 := Fr.app N16 N17q
  obtain ⟨_, _, ⟨T18, L18, k18, n18⟩, -, X18, ⟨Lc18, hQ18, l18, y18, z18⟩, st18⟩ := Jvm.LawKit.callS X17 hx (y := (⟨"com/example/driftstone/driftstone/core/RecordOutputWritePinLaw", "at", "([BII[BIII)Z"⟩ : MethodName)) hown (mvT hZ (hw _ (List.mem_of_getElem? (i := 83) rfl))) (mvT hZ (hw _ (List.mem_of_getElem? (i := 84) rfl))) (mvT hZ (hw _ (List.mem_of_getElem? (i := 85) rfl))) (mvT hZ (hw _ (List.mem_of_getElem? (i := 86) rfl))) (by decide) (backOf (W := 0) (rm_at l Z a0 hw [] b12 (kF xk) (kF xk) b1 x1 x2 x3 (zsF (kF xk) (ysF xp xq) x1 x2 x3) (ysF xp xq) T12.heap n0 Zs12 Az12 Ar12 (at_in hk hy)) hZ (hw _ (List.mem_of_getElem? (i := 86) rfl)) (hw _ (List.mem_of_getElem? (i := 85) rfl)) (by decide) (by decide)) (g := (mkF m 193 #[.val (.int xk), .val (.int x1), .val (.int x2), .val (.int x3), .val (.int xp), .val (.int xq), .val (.int (kF xk)), .val (.ref b1), .val (.ref b5), .val (.int (c3F (kF xk))), .val (.ref b12)] [(.int x3), (.int x2), (.int x1), (.ref b1), (.int (kF xk)), (.int (kF xk)), (.ref b12)])) rfl (by rw [hml]; rfl) (argsL := [(.ref b12), (.int (kF xk)), (.int (kF xk)), (.ref b1), (.int x1), (.int x2), (.int x3)]) (rest := []) (lenOf pd_11 rfl) rfl (by show 2 * 0 + _ ≤ _; exact Nat.le_of_eq rfl) (hb hby at_193) (fun _ _ => ⟨rfl, e17, (by decide : 7 + 0 ≤ _), (by decide : 486 + 0 ≤ _)⟩)
  dsimp only [Pt.U, Pt.locs, Pt.cells, Pt.slots] at X18 l18 y18 z18 st18 hQ18
  subst l18 y18 z18
  obtain ⟨rfl, N18q, e18⟩ := hQ18
  have N18 := Fr.app N17 N18q
  obtain ⟨_, _, ⟨T19, L19, k19, n19⟩, -, X19, ⟨Lc19, hQ19, l19, y19, z19⟩, st19⟩ := Jvm.LawKit.callS X18 hx (y := (⟨"com/example/driftstone/driftstone/core/RecordOutputWritePinLaw", "at", "([BII[BIII)Z"⟩ : MethodName)) hown (mvT hZ (hw _ (List.mem_of_getElem? (i := 83) rfl))) (mvT hZ (hw _ (List.mem_of_getElem? (i := 84) rfl))) (mvT hZ (hw _ (List.mem_of_getElem? (i := 85) rfl))) (mvT hZ (hw _ (List.mem_of_getElem? (i := 86) rfl))) (by decide) (backOf (W := 0) (rm_at l Z a0 hw [] b12 ((kF xk) + (1 : Int32)) (kF xk) b1 x1 x2 x3 (zsF (kF xk) (ysF xp xq) x1 x2 x3) (ysF xp xq) T12.heap n0 Zs12 Az12 Ar12 (at_in hk hy)) hZ (hw _ (List.mem_of_getElem? (i := 86) rfl)) (hw _ (List.mem_of_getElem? (i := 85) rfl)) (by decide) (by decide)) (g := (mkF m 212 #[.val (.int xk), .val (.int x1), .val (.int x2), .val (.int x3), .val (.int xp), .val (.int xq), .val (.int (kF xk)), .val (.ref b1), .val (.ref b5), .val (.int (c3F (kF xk))), .val (.ref b12)] [(.int x3), (.int x2), (.int x1), (.ref b1), (.int (kF xk)), (.int ((kF xk) + (1 : Int32))), (.ref b12)])) rfl (by rw [hml]; rfl) (argsL := [(.ref b12), (.int ((kF xk) + (1 : Int32))), (.int (kF xk)), (.ref b1), (.int x1), (.int x2), (.int x3)]) (rest := []) (lenOf pd_11 rfl) rfl (by show 2 * 0 + _ ≤ _; exact Nat.le_of_eq rfl) (hb hby at_212) (fun _ _ => ⟨rfl, e18, (by decide : 7 + 0 ≤ _), (by decide : 486 + 0 ≤ _)⟩)
  dsimp only [Pt.U, Pt.locs, Pt.cells, Pt.slots] at X19 l19 y19 z19 st19 hQ19
  subst l19 y19 z19
  obtain ⟨rfl, N19q, e19⟩ := hQ19
  have N19 := Fr.app N18 N19q
  obtain ⟨_, _, ⟨T20, L20, k20, n20⟩, -, X20, ⟨Lc20, hQ20, l20, y20, z20⟩, st20⟩ := Jvm.LawKit.callS X19 hx (y := (⟨"com/example/driftstone/driftstone/core/RecordOutputWritePinLaw", "at", "([BII[BIII)Z"⟩ : MethodName)) hown (mvT hZ (hw _ (List.mem_of_getElem? (i := 83) rfl))) (mvT hZ (hw _ (List.mem_of_getElem? (i := 84) rfl))) (mvT hZ (hw _ (List.mem_of_getElem? (i := 85) rfl))) (mvT hZ (hw _ (List.mem_of_getElem? (i := 86) rfl))) (by decide) (backOf (W := 0) (rm_at l Z a0 hw [] b12 ((kF xk) + (2 : Int32)) (kF xk) b1 x1 x2 x3 (zsF (kF xk) (ysF xp xq) x1 x2 x3) (ysF xp xq) T12.heap n0 Zs12 Az12 Ar12 (at_in hk hy)) hZ (hw _ (List.mem_of_getElem? (i := 86) rfl)) (hw _ (List.mem_of_getElem? (i := 85) rfl)) (by decide) (by decide)) (g := (mkF m 231 #[.val (.int xk), .val (.int x1), .val (.int x2), .val (.int x3), .val (.int xp), .val (.int xq), .val (.int (kF xk)), .val (.ref b1), .val (.ref b5), .val (.int (c3F (kF xk))), .val (.ref b12)] [(.int x3), (.int x2), (.int x1), (.ref b1), (.int (kF xk)), (.int ((kF xk) + (2 : Int32))), (.ref b12)])) rfl (by rw [hml]; rfl) (argsL := [(.ref b12), (.int ((kF xk) + (2 : Int32))), (.int (kF xk)), (.ref b1), (.int x1), (.int x2), (.int x3)]) (rest := []) (lenOf pd_11 rfl) rfl (by show 2 * 0 + _ ≤ _; exact Nat.le_of_eq rfl) (hb hby at_231) (fun _ _ => ⟨rfl, e19, (by decide : 7 + 0 ≤ _), (by decide : 486 + 0 ≤ _)⟩)
  dsimp only [Pt.U, Pt.locs, Pt.cells, Pt.slots] at X20 l20 y20 z20 st20 hQ20
  subst l20 y20 z20
  obtain ⟨rfl, N20q, e20⟩ := hQ20
  have N20 := Fr.app N19 N20q
  obtain ⟨fs, hr, hrun, hended, hW, hsame⟩ := X20.leave (v := some (.int (1 : Int32))) (fun h => by rw [Bd.returns] at h; cases h)
  refine ⟨_, _, pre0 _ ?_, hrun, hended, _, _, rfl, ?_, ⟨_, rfl⟩, hW, hsame.mono (by decide) (by decide)⟩
  · show Steps p.tables e below (s₁.setTop (mkF m 0 #[.val (.int xk), .val (.int x1), .val (.int x2), .val (.int x3), .val (.int xp), .val (.int xq), .unset, .unset, .unset, .unset, .unset] [])) _
    refine XS.iloadN X0.here hx rfl (hb hby at_0) rfl ?_
    show Steps p.tables e below (s₁.setTop (mkF m 1 #[.val (.int xk), .val (.int x1), .val (.int x2), .val (.int x3), .val (.int xp), .val (.int xq), .unset, .unset, .unset, .unset, .unset] [(.int xk)])) _
    refine X0.ldcInt hx hown (mvT hZ (hw _ (List.mem_of_getElem? (i := 0) rfl))) (g := (mkF m 1 #[.val (.int xk), .val (.int x1), .val (.int x2), .val (.int x3), .val (.int xp), .val (.int xq), .unset, .unset, .unset, .unset, .unset] [(.int xk)])) rfl (hb hby at_1) _ ?_
    show Steps p.tables e below (s₁.setTop (mkF m 3 #[.val (.int xk), .val (.int x1), .val (.int x2), .val (.int x3), .val (.int xp), .val (.int xq), .unset, .unset, .unset, .unset, .unset] [(.int (2147483647 : Int32)), (.int xk)])) _
    refine XS.iand X0.here hx rfl (hb hby at_3) rfl ?_
    show Steps p.tables e below (s₁.setTop (mkF m 4 #[.val (.int xk), .val (.int x1), .val (.int x2), .val (.int x3), .val (.int xp), .val (.int xq), .unset, .unset, .unset, .unset, .unset] [(.int (xk &&& (2147483647 : Int32)))])) _
    refine XS.bipush X0.here hx rfl (hb hby at_4) ?_
    show Steps p.tables e below (s₁.setTop (mkF m 6 #[.val (.int xk), .val (.int x1), .val (.int x2), .val (.int x3), .val (.int xp), .val (.int xq), .unset, .unset, .unset, .unset, .unset] [(.int (33 : Int32)), (.int (xk &&& (2147483647 : Int32)))])) _
    refine XS.irem X0.here hx rfl (hb hby at_6) rfl (by decide) ?_
    show Steps p.tables e below (s₁.setTop (mkF m 7 #[.val (.int xk), .val (.int x1), .val (.int x2), .val (.int x3), .val (.int xp), .val (.int xq), .unset, .unset, .unset, .unset, .unset] [(.int ((xk &&& (2147483647 : Int32)) - ((xk &&& (2147483647 : Int32)) / (33 : Int32)) * (33 : Int32)))])) _
    refine XS.istore X0.here hx rfl (hb hby at_7) rfl (l' := #[.val (.int xk), .val (.int x1), .val (.int x2), .val (.int x3), .val (.int xp), .val (.int xq), .val (.int (kF xk)), .unset, .unset, .unset, .unset]) rfl ?_
    show Steps p.tables e below (s₁.setTop (mkF m 9 #[.val (.int xk), .val (.int x1), .val (.int x2), .val (.int x3), .val (.int xp), .val (.int xq), .val (.int (kF xk)), .unset, .unset, .unset, .unset] [])) _
    refine XS.bipush X0.here hx rfl (hb hby at_9) ?_
    show Steps p.tables e below (s₁.setTop (mkF m 11 #[.val (.int xk), .val (.int x1), .val (.int x2), .val (.int x3), .val (.int xp), .val (.int xq), .val (.int (kF xk)), .unset, .unset, .unset, .unset] [(.int (32 : Int32))])) _
    refine st1 _ ?_
    show Steps p.tables e below (T1.setTop (mkF m 13 #[.val (.int xk), .val (.int x1), .val (.int x2), .val (.int x3), .val (.int xp), .val (.int xq), .val (.int (kF xk)), .unset, .unset, .unset, .unset] [(.ref b1)])) _
    refine XS.astore X1.here hx rfl (hb hby at_13) rfl rfl (l' := #[.val (.int xk), .val (.int x1), .val (.int x2), .val (.int x3), .val (.int xp), .val (.int xq), .val (.int (kF xk)), .val (.ref b1), .unset, .unset, .unset]) rfl ?_
    show Steps p.tables e below (T1.setTop (mkF m 15 #[.val (.int xk), .val (.int x1), .val (.int x2), .val (.int x3), .val (.int xp), .val (.int xq), .val (.int (kF xk)), .val (.ref b1), .unset, .unset, .unset] [])) _
    refine XS.aload X1.here hx rfl (hb hby at_15) rfl rfl ?_
    show Steps p.tables e below (T1.setTop (mkF m 17 #[.val (.int xk), .val (.int x1), .val (.int x2), .val (.int x3), .val (.int xp), .val (.int xq), .val (.int (kF xk)), .val (.ref b1), .unset, .unset, .unset] [(.ref b1)])) _
    refine XS.iconst X1.here hx rfl (hb hby at_17) ?_
    show Steps p.tables e below (T1.setTop (mkF m 18 #[.val (.int xk), .val (.int x1), .val (.int x2), .val (.int x3), .val (.int xp), .val (.int xq), .val (.int (kF xk)), .val (.ref b1), .unset, .unset, .unset] [(.int (0 : Int32)), (.ref b1)])) _
    refine XS.iload X1.here hx rfl (hb hby at_18) rfl ?_
    show Steps p.tables e below (T1.setTop (mkF m 20 #[.val (.int xk), .val (.int x1), .val (.int x2), .val (.int x3), .val (.int xp), .val (.int xq), .val (.int (kF xk)), .val (.ref b1), .unset, .unset, .unset] [(.int xp), (.int (0 : Int32)), (.ref b1)])) _
    refine XS.i2b X1.here hx rfl (hb hby at_20) rfl ?_
    show Steps p.tables e below (T1.setTop (mkF m 21 #[.val (.int xk), .val (.int x1), .val (.int x2), .val (.int x3), .val (.int xp), .val (.int xq), .val (.int (kF xk)), .val (.ref b1), .unset, .unset, .unset] [(.int (xp.toInt8.toInt32)), (.int (0 : Int32)), (.ref b1)])) _
    refine st2 _ ?_
    show Steps p.tables e below (T2.setTop (mkF m 22 #[.val (.int xk), .val (.int x1), .val (.int x2), .val (.int x3), .val (.int xp), .val (.int xq), .val (.int (kF xk)), .val (.ref b1), .unset, .unset, .unset] [])) _
    refine XS.aload X2.here hx rfl (hb hby at_22) rfl rfl ?_
    show Steps p.tables e below (T2.setTop (mkF m 24 #[.val (.int xk), .val (.int x1), .val (.int x2), .val (.int x3), .val (.int xp), .val (.int xq), .val (.int (kF xk)), .val (.ref b1), .unset, .unset, .unset] [(.ref b1)])) _
    refine XS.bipush X2.here hx rfl (hb hby at_24) ?_
    show Steps p.tables e below (T2.setTop (mkF m 26 #[.val (.int xk), .val (.int x1), .val (.int x2), .val (.int x3), .val (.int xp), .val (.int xq), .val (.int (kF xk)), .val (.ref b1), .unset, .unset, .unset] [(.int (16 : Int32)), (.ref b1)])) _
    refine XS.iload X2.here hx rfl (hb hby at_26) rfl ?_
    show Steps p.tables e below (T2.setTop (mkF m 28 #[.val (.int xk), .val (.int x1), .val (.int x2), .val (.int x3), .val (.int xp), .val (.int xq), .val (.int (kF xk)), .val (.ref b1), .unset, .unset, .unset] [(.int xp), (.int (16 : Int32)), (.ref b1)])) _
    refine XS.bipush X2.here hx rfl (hb hby at_28) ?_
    show Steps p.tables e below (T2.setTop (mkF m 30 #[.val (.int xk), .val (.int x1), .val (.int x2), .val (.int x3), .val (.int xp), .val (.int xq), .val (.int (kF xk)), .val (.ref b1), .unset, .unset, .unset] [(.int (8 : Int32)), (.int xp), (.int (16 : Int32)), (.ref b1)])) _
    refine XS.ishr X2.here hx rfl (hb hby at_30) rfl ?_
    show Steps p.tables e below (T2.setTop (mkF m 31 #[.val (.int xk), .val (.int x1), .val (.int x2), .val (.int x3), .val (.int xp), .val (.int xq), .val (.int (kF xk)), .val (.ref b1), .unset, .unset, .unset] [(.int (xp >>> ((8 : Int32) &&& 31))), (.int (16 : Int32)), (.ref b1)])) _
    refine XS.i2b X2.here hx rfl (hb hby at_31) rfl ?_
    show Steps p.tables e below (T2.setTop (mkF m 32 #[.val (.int xk), .val (.int x1), .val (.int x2), .val (.int x3), .val (.int xp), .val (.int xq), .val (.int (kF xk)), .val (.ref b1), .unset, .unset, .unset] [(.int ((xp >>> ((8 : Int32) &&& 31)).toInt8.toInt32)), (.int (16 : Int32)), (.ref b1)])) _
    refine st3 _ ?_
    show Steps p.tables e below (T3.setTop (mkF m 33 #[.val (.int xk), .val (.int x1), .val (.int x2), .val (.int x3), .val (.int xp), .val (.int xq), .val (.int (kF xk)), .val (.ref b1), .unset, .unset, .unset] [])) _
    refine XS.aload X3.here hx rfl (hb hby at_33) rfl rfl ?_
    show Steps p.tables e below (T3.setTop (mkF m 35 #[.val (.int xk), .val (.int x1), .val (.int x2), .val (.int x3), .val (.int xp), .val (.int xq), .val (.int (kF xk)), .val (.ref b1), .unset, .unset, .unset] [(.ref b1)])) _
    refine XS.bipush X3.here hx rfl (hb hby at_35) ?_
    show Steps p.tables e below (T3.setTop (mkF m 37 #[.val (.int xk), .val (.int x1), .val (.int x2), .val (.int x3), .val (.int xp), .val (.int xq), .val (.int (kF xk)), .val (.ref b1), .unset, .unset, .unset] [(.int (31 : Int32)), (.ref b1)])) _
    refine XS.iload X3.here hx rfl (hb hby at_37) rfl ?_
    show Steps p.tables e below (T3.setTop (mkF m 39 #[.val (.int xk), .val (.int x1), .val (.int x2), .val (.int x3), .val (.int xp), .val (.int xq), .val (.int (kF xk)), .val (.ref b1), .unset, .unset, .unset] [(.int xq), (.int (31 : Int32)), (.ref b1)])) _
    refine XS.i2b X3.here hx rfl (hb hby at_39) rfl ?_
    show Steps p.tables e below (T3.setTop (mkF m 40 #[.val (.int xk), .val (.int x1), .val (.int x2), .val (.int x3), .val (.int xp), .val (.int xq), .val (.int (kF xk)), .val (.ref b1), .unset, .unset, .unset] [(.int (xq.toInt8.toInt32)), (.int (31 : Int32)), (.ref b1)])) _
    refine st4 _ ?_
    show Steps p.tables e below (T4.setTop (mkF m 41 #[.val (.int xk), .val (.int x1), .val (.int x2), .val (.int x3), .val (.int xp), .val (.int xq), .val (.int (kF xk)), .val (.ref b1), .unset, .unset, .unset] [])) _
    refine st5 _ ?_
    show Steps p.tables e below (T5.setTop (mkF m 44 #[.val (.int xk), .val (.int x1), .val (.int x2), .val (.int x3), .val (.int xp), .val (.int xq), .val (.int (kF xk)), .val (.ref b1), .unset, .unset, .unset] [(.ref b5)])) _
    refine XS.dup X5.here hx rfl (hb hby at_44) rfl rfl ?_
    show Steps p.tables e below (T5.setTop (mkF m 45 #[.val (.int xk), .val (.int x1), .val (.int x2), .val (.int x3), .val (.int xp), .val (.int xq), .val (.int (kF xk)), .val (.ref b1), .unset, .unset, .unset] [(.ref b5), (.ref b5)])) _
    refine st6.trans ?_
    show Steps p.tables e below (T6.setTop (mkF m 48 #[.val (.int xk), .val (.int x1), .val (.int x2), .val (.int x3), .val (.int xp), .val (.int xq), .val (.int (kF xk)), .val (.ref b1), .unset, .unset, .unset] [(.ref b5)])) _
    refine XS.astore X6.here hx rfl (hb hby at_48) rfl rfl (l' := #[.val (.int xk), .val (.int x1), .val (.int x2), .val (.int x3), .val (.int xp), .val (.int xq), .val (.int (kF xk)), .val (.ref b1), .val (.ref b5), .unset, .unset]) rfl ?_
    show Steps p.tables e below (T6.setTop (mkF m 50 #[.val (.int xk), .val (.int x1), .val (.int x2), .val (.int x3), .val (.int xp), .val (.int xq), .val (.int (kF xk)), .val (.ref b1), .val (.ref b5), .unset, .unset] [])) _
    refine XS.aload X6.here hx rfl (hb hby at_50) rfl rfl ?_
    show Steps p.tables e below (T6.setTop (mkF m 52 #[.val (.int xk), .val (.int x1), .val (.int x2), .val (.int x3), .val (.int xp), .val (.int xq), .val (.int (kF xk)), .val (.ref b1), .val (.ref b5), .unset, .unset] [(.ref b5)])) _
    refine XS.aload X6.here hx rfl (hb hby at_52) rfl rfl ?_
    show Steps p.tables e below (T6.setTop (mkF m 54 #[.val (.int xk), .val (.int x1), .val (.int x2), .val (.int x3), .val (.int xp), .val (.int xq), .val (.int (kF xk)), .val (.ref b1), .val (.ref b5), .unset, .unset] [(.ref b1), (.ref b5)])) _
    refine XS.iconst X6.here hx rfl (hb hby at_54) ?_
    show Steps p.tables e below (T6.setTop (mkF m 55 #[.val (.int xk), .val (.int x1), .val (.int x2), .val (.int x3), .val (.int xp), .val (.int xq), .val (.int (kF xk)), .val (.ref b1), .val (.ref b5), .unset, .unset] [(.int (0 : Int32)), (.ref b1), (.ref b5)])) _
    refine XS.iload X6.here hx rfl (hb hby at_55) rfl ?_
    show Steps p.tables e below (T6.setTop (mkF m 57 #[.val (.int xk), .val (.int x1), .val (.int x2), .val (.int x3), .val (.int xp), .val (.int xq), .val (.int (kF xk)), .val (.ref b1), .val (.ref b5), .unset, .unset] [(.int (kF xk)), (.int (0 : Int32)), (.ref b1), (.ref b5)])) _
    refine st7.trans ?_
    show Steps p.tables e below (T7.setTop (mkF m 60 #[.val (.int xk), .val (.int x1), .val (.int x2), .val (.int x3), .val (.int xp), .val (.int xq), .val (.int (kF xk)), .val (.ref b1), .val (.ref b5), .unset, .unset] [])) _
    refine XS.aload X7.here hx rfl (hb hby at_60) rfl rfl ?_
    show Steps p.tables e below (T7.setTop (mkF m 62 #[.val (.int xk), .val (.int x1), .val (.int x2), .val (.int x3), .val (.int xp), .val (.int xq), .val (.int (kF xk)), .val (.ref b1), .val (.ref b5), .unset, .unset] [(.ref b5)])) _
    refine XS.iloadN X7.here hx rfl (hb hby at_62) rfl ?_
    show Steps p.tables e below (T7.setTop (mkF m 63 #[.val (.int xk), .val (.int x1), .val (.int x2), .val (.int x3), .val (.int xp), .val (.int xq), .val (.int (kF xk)), .val (.ref b1), .val (.ref b5), .unset, .unset] [(.int x1), (.ref b5)])) _
    refine st8.trans ?_
    show Steps p.tables e below (T8.setTop (mkF m 66 #[.val (.int xk), .val (.int x1), .val (.int x2), .val (.int x3), .val (.int xp), .val (.int xq), .val (.int (kF xk)), .val (.ref b1), .val (.ref b5), .unset, .unset] [])) _
    refine XS.aload X8.here hx rfl (hb hby at_66) rfl rfl ?_
    show Steps p.tables e below (T8.setTop (mkF m 68 #[.val (.int xk), .val (.int x1), .val (.int x2), .val (.int x3), .val (.int xp), .val (.int xq), .val (.int (kF xk)), .val (.ref b1), .val (.ref b5), .unset, .unset] [(.ref b5)])) _
    refine XS.iloadN X8.here hx rfl (hb hby at_68) rfl ?_
    show Steps p.tables e below (T8.setTop (mkF m 69 #[.val (.int xk), .val (.int x1), .val (.int x2), .val (.int x3), .val (.int xp), .val (.int xq), .val (.int (kF xk)), .val (.ref b1), .val (.ref b5), .unset, .unset] [(.int x2), (.ref b5)])) _
    refine st9.trans ?_
    show Steps p.tables e below (T9.setTop (mkF m 72 #[.val (.int xk), .val (.int x1), .val (.int x2), .val (.int x3), .val (.int xp), .val (.int xq), .val (.int (kF xk)), .val (.ref b1), .val (.ref b5), .unset, .unset] [])) _
    refine XS.aload X9.here hx rfl (hb hby at_72) rfl rfl ?_
    show Steps p.tables e below (T9.setTop (mkF m 74 #[.val (.int xk), .val (.int x1), .val (.int x2), .val (.int x3), .val (.int xp), .val (.int xq), .val (.int (kF xk)), .val (.ref b1), .val (.ref b5), .unset, .unset] [(.ref b5)])) _
    refine XS.iloadN X9.here hx rfl (hb hby at_74) rfl ?_
    show Steps p.tables e below (T9.setTop (mkF m 75 #[.val (.int xk), .val (.int x1), .val (.int x2), .val (.int x3), .val (.int xp), .val (.int xq), .val (.int (kF xk)), .val (.ref b1), .val (.ref b5), .unset, .unset] [(.int x3), (.ref b5)])) _
    refine st10.trans ?_
    show Steps p.tables e below (T10.setTop (mkF m 78 #[.val (.int xk), .val (.int x1), .val (.int x2), .val (.int x3), .val (.int xp), .val (.int xq), .val (.int (kF xk)), .val (.ref b1), .val (.ref b5), .unset, .unset] [])) _
    refine XS.aload X10.here hx rfl (hb hby at_78) rfl rfl ?_
    show Steps p.tables e below (T10.setTop (mkF m 80 #[.val (.int xk), .val (.int x1), .val (.int x2), .val (.int x3), .val (.int xp), .val (.int xq), .val (.int (kF xk)), .val (.ref b1), .val (.ref b5), .unset, .unset] [(.ref b5)])) _
    refine st11.trans ?_
    show Steps p.tables e below (T11.setTop (mkF m 83 #[.val (.int xk), .val (.int x1), .val (.int x2), .val (.int x3), .val (.int xp), .val (.int xq), .val (.int (kF xk)), .val (.ref b1), .val (.ref b5), .unset, .unset] [(.int (c3F (kF xk)))])) _
    refine XS.istore X11.here hx rfl (hb hby at_83) rfl (l' := #[.val (.int xk), .val (.int x1), .val (.int x2), .val (.int x3), .val (.int xp), .val (.int xq), .val (.int (kF xk)), .val (.ref b1), .val (.ref b5), .val (.int (c3F (kF xk))), .unset]) rfl ?_
    show Steps p.tables e below (T11.setTop (mkF m 85 #[.val (.int xk), .val (.int x1), .val (.int x2), .val (.int x3), .val (.int xp), .val (.int xq), .val (.int (kF xk)), .val (.ref b1), .val (.ref b5), .val (.int (c3F (kF xk))), .unset] [])) _
    refine XS.aload X11.here hx rfl (hb hby at_85) rfl rfl ?_
    show Steps p.tables e below (T11.setTop (mkF m 87 #[.val (.int xk), .val (.int x1), .val (.int x2), .val (.int x3), .val (.int xp), .val (.int xq), .val (.int (kF xk)), .val (.ref b1), .val (.ref b5), .val (.int (c3F (kF xk))), .unset] [(.ref b5)])) _
    refine st12.trans ?_
    show Steps p.tables e below (T12.setTop (mkF m 90 #[.val (.int xk), .val (.int x1), .val (.int x2), .val (.int x3), .val (.int xp), .val (.int xq), .val (.int (kF xk)), .val (.ref b1), .val (.ref b5), .val (.int (c3F (kF xk))), .unset] [(.ref b12)])) _
    refine XS.astore X12.here hx rfl (hb hby at_90) rfl rfl (l' := #[.val (.int xk), .val (.int x1), .val (.int x2), .val (.int x3), .val (.int xp), .val (.int xq), .val (.int (kF xk)), .val (.ref b1), .val (.ref b5), .val (.int (c3F (kF xk))), .val (.ref b12)]) rfl ?_
    show Steps p.tables e below (T12.setTop (mkF m 92 #[.val (.int xk), .val (.int x1), .val (.int x2), .val (.int x3), .val (.int xp), .val (.int xq), .val (.int (kF xk)), .val (.ref b1), .val (.ref b5), .val (.int (c3F (kF xk))), .val (.ref b12)] [])) _
    refine XS.iload X12.here hx rfl (hb hby at_92) rfl ?_
    show Steps p.tables e below (T12.setTop (mkF m 94 #[.val (.int xk), .val (.int x1), .val (.int x2), .val (.int x3), .val (.int xp), .val (.int xq), .val (.int (kF xk)), .val (.ref b1), .val (.ref b5), .val (.int (c3F (kF xk))), .val (.ref b12)] [(.int (c3F (kF xk)))])) _
    refine XS.iload X12.here hx rfl (hb hby at_94) rfl ?_
    show Steps p.tables e below (T12.setTop (mkF m 96 #[.val (.int xk), .val (.int x1), .val (.int x2), .val (.int x3), .val (.int xp), .val (.int xq), .val (.int (kF xk)), .val (.ref b1), .val (.ref b5), .val (.int (c3F (kF xk))), .val (.ref b12)] [(.int (kF xk)), (.int (c3F (kF xk)))])) _
    refine XS.iconst X12.here hx rfl (hb hby at_96) ?_
    show Steps p.tables e below (T12.setTop (mkF m 97 #[.val (.int xk), .val (.int x1), .val (.int x2), .val (.int x3), .val (.int xp), .val (.int xq), .val (.int (kF xk)), .val (.ref b1), .val (.ref b5), .val (.int (c3F (kF xk))), .val (.ref b12)] [(.int (3 : Int32)), (.int (kF xk)), (.int (c3F (kF xk)))])) _
    refine XS.iadd X12.here hx rfl (hb hby at_97) rfl ?_
    show Steps p.tables e below (T12.setTop (mkF m 98 #[.val (.int xk), .val (.int x1), .val (.int x2), .val (.int x3), .val (.int xp), .val (.int xq), .val (.int (kF xk)), .val (.ref b1), .val (.ref b5), .val (.int (c3F (kF xk))), .val (.ref b12)] [(.int ((kF xk) + (3 : Int32))), (.int (c3F (kF xk)))])) _
    refine XS.icmpNo X12.here hx rfl (hb hby at_98) rfl (teq (c3_eq hk)).2 ?_
    show Steps p.tables e below (T12.setTop (mkF m 101 #[.val (.int xk), .val (.int x1), .val (.int x2), .val (.int x3), .val (.int xp), .val (.int xq), .val (.int (kF xk)), .val (.ref b1), .val (.ref b5), .val (.int (c3F (kF xk))), .val (.ref b12)] [])) _
    refine XS.aload X12.here hx rfl (hb hby at_101) rfl rfl ?_
    show Steps p.tables e below (T12.setTop (mkF m 103 #[.val (.int xk), .val (.int x1), .val (.int x2), .val (.int x3), .val (.int xp), .val (.int xq), .val (.int (kF xk)), .val (.ref b1), .val (.ref b5), .val (.int (c3F (kF xk))), .val (.ref b12)] [(.ref b12)])) _
    refine X12.arraylength hx Ar13.1 (State.isArrayOf_alike hZ.alike Ar13.2.1) (g := (mkF m 103 #[.val (.int xk), .val (.int x1), .val (.int x2), .val (.int x3), .val (.int xp), .val (.int xq), .val (.int (kF xk)), .val (.ref b1), .val (.ref b5), .val (.int (c3F (kF xk))), .val (.ref b12)] [(.ref b12)])) rfl rfl (hb hby at_103) _ ?_
    rw [ln13]
    show Steps p.tables e below (T12.setTop (mkF m 104 #[.val (.int xk), .val (.int x1), .val (.int x2), .val (.int x3), .val (.int xp), .val (.int xq), .val (.int (kF xk)), .val (.ref b1), .val (.ref b5), .val (.int (c3F (kF xk))), .val (.ref b12)] [(.int (Int32.ofNat (zsF (kF xk) (ysF xp xq) x1 x2 x3).length))])) _
    refine XS.iload X12.here hx rfl (hb hby at_104) rfl ?_
    show Steps p.tables e below (T12.setTop (mkF m 106 #[.val (.int xk), .val (.int x1), .val (.int x2), .val (.int x3), .val (.int xp), .val (.int xq), .val (.int (kF xk)), .val (.ref b1), .val (.ref b5), .val (.int (c3F (kF xk))), .val (.ref b12)] [(.int (kF xk)), (.int (Int32.ofNat (zsF (kF xk) (ysF xp xq) x1 x2 x3).length))])) _
    refine XS.iconst X12.here hx rfl (hb hby at_106) ?_
    show Steps p.tables e below (T12.setTop (mkF m 107 #[.val (.int xk), .val (.int x1), .val (.int x2), .val (.int x3), .val (.int xp), .val (.int xq), .val (.int (kF xk)), .val (.ref b1), .val (.ref b5), .val (.int (c3F (kF xk))), .val (.ref b12)] [(.int (3 : Int32)), (.int (kF xk)), (.int (Int32.ofNat (zsF (kF xk) (ysF xp xq) x1 x2 x3).length))])) _
    refine XS.iadd X12.here hx rfl (hb hby at_107) rfl ?_
    show Steps p.tables e below (T12.setTop (mkF m 108 #[.val (.int xk), .val (.int x1), .val (.int x2), .val (.int x3), .val (.int xp), .val (.int xq), .val (.int (kF xk)), .val (.ref b1), .val (.ref b5), .val (.int (c3F (kF xk))), .val (.ref b12)] [(.int ((kF xk) + (3 : Int32))), (.int (Int32.ofNat (zsF (kF xk) (ysF xp xq) x1 x2 x3).length))])) _
    refine XS.icmpYes X12.here hx rfl (pc0 := 108) (pc' := 113) rfl (hb hby at_108) rfl (teq (zs_len3 hk)).1 (by decide) (by decide) ?_
    show Steps p.tables e below (T12.setTop (mkF m 113 #[.val (.int xk), .val (.int x1), .val (.int x2), .val (.int x3), .val (.int xp), .val (.int xq), .val (.int (kF xk)), .val (.ref b1), .val (.ref b5), .val (.int (c3F (kF xk))), .val (.ref b12)] [])) _
    refine XS.aload X12.here hx rfl (hb hby at_113) rfl rfl ?_
    show Steps p.tables e below (T12.setTop (mkF m 115 #[.val (.int xk), .val (.int x1), .val (.int x2), .val (.int x3), .val (.int xp), .val (.int xq), .val (.int (kF xk)), .val (.ref b1), .val (.ref b5), .val (.int (c3F (kF xk))), .val (.ref b12)] [(.ref b12)])) _
    refine XS.iconst X12.here hx rfl (hb hby at_115) ?_
    show Steps p.tables e below (T12.setTop (mkF m 116 #[.val (.int xk), .val (.int x1), .val (.int x2), .val (.int x3), .val (.int xp), .val (.int xq), .val (.int (kF xk)), .val (.ref b1), .val (.ref b5), .val (.int (c3F (kF xk))), .val (.ref b12)] [(.int (0 : Int32)), (.ref b12)])) _
    refine XS.iload X12.here hx rfl (hb hby at_116) rfl ?_
    show Steps p.tables e below (T12.setTop (mkF m 118 #[.val (.int xk), .val (.int x1), .val (.int x2), .val (.int x3), .val (.int xp), .val (.int xq), .val (.int (kF xk)), .val (.ref b1), .val (.ref b5), .val (.int (c3F (kF xk))), .val (.ref b12)] [(.int (kF xk)), (.int (0 : Int32)), (.ref b12)])) _
    refine XS.aload X12.here hx rfl (hb hby at_118) rfl rfl ?_
    show Steps p.tables e below (T12.setTop (mkF m 120 #[.val (.int xk), .val (.int x1), .val (.int x2), .val (.int x3), .val (.int xp), .val (.int xq), .val (.int (kF xk)), .val (.ref b1), .val (.ref b5), .val (.int (c3F (kF xk))), .val (.ref b12)] [(.ref b1), (.int (kF xk)), (.int (0 : Int32)), (.ref b12)])) _
    refine XS.iloadN X12.here hx rfl (hb hby at_120) rfl ?_
    show Steps p.tables e below (T12.setTop (mkF m 121 #[.val (.int xk), .val (.int x1), .val (.int x2), .val (.int x3), .val (.int xp), .val (.int xq), .val (.int (kF xk)), .val (.ref b1), .val (.ref b5), .val (.int (c3F (kF xk))), .val (.ref b12)] [(.int x1), (.ref b1), (.int (kF xk)), (.int (0 : Int32)), (.ref b12)])) _
    refine XS.iloadN X12.here hx rfl (hb hby at_121) rfl ?_
    show Steps p.tables e below (T12.setTop (mkF m 122 #[.val (.int xk), .val (.int x1), .val (.int x2), .val (.int x3), .val (.int xp), .val (.int xq), .val (.int (kF xk)), .val (.ref b1), .val (.ref b5), .val (.int (c3F (kF xk))), .val (.ref b12)] [(.int x2), (.int x1), (.ref b1), (.int (kF xk)), (.int (0 : Int32)), (.ref b12)])) _
    refine XS.iloadN X12.here hx rfl (hb hby at_122) rfl ?_
    show Steps p.tables e below (T12.setTop (mkF m 123 #[.val (.int xk), .val (.int x1), .val (.int x2), .val (.int x3), .val (.int xp), .val (.int xq), .val (.int (kF xk)), .val (.ref b1), .val (.ref b5), .val (.int (c3F (kF xk))), .val (.ref b12)] [(.int x3), (.int x2), (.int x1), (.ref b1), (.int (kF xk)), (.int (0 : Int32)), (.ref b12)])) _
    refine st14 _ ?_
    show Steps p.tables e below (T14.setTop (mkF m 126 #[.val (.int xk), .val (.int x1), .val (.int x2), .val (.int x3), .val (.int xp), .val (.int xq), .val (.int (kF xk)), .val (.ref b1), .val (.ref b5), .val (.int (c3F (kF xk))), .val (.ref b12)] [(.int (atF (zsF (kF xk) (ysF xp xq) x1 x2 x3) (0 : Int32) (kF xk) (ysF xp xq) x1 x2 x3))])) _
    refine XS.ifNo X14.here hx rfl (hb hby at_126) rfl ((if0 _ _).trans (feq (one0 _)).1) ?_
    show Steps p.tables e below (T14.setTop (mkF m 129 #[.val (.int xk), .val (.int x1), .val (.int x2), .val (.int x3), .val (.int xp), .val (.int xq), .val (.int (kF xk)), .val (.ref b1), .val (.ref b5), .val (.int (c3F (kF xk))), .val (.ref b12)] [])) _
    refine XS.aload X14.here hx rfl (hb hby at_129) rfl rfl ?_
    show Steps p.tables e below (T14.setTop (mkF m 131 #[.val (.int xk), .val (.int x1), .val (.int x2), .val (.int x3), .val (.int xp), .val (.int xq), .val (.int (kF xk)), .val (.ref b1), .val (.ref b5), .val (.int (c3F (kF xk))), .val (.ref b12)] [(.ref b12)])) _
    refine XS.bipush X14.here hx rfl (hb hby at_131) ?_
    show Steps p.tables e below (T14.setTop (mkF m 133 #[.val (.int xk), .val (.int x1), .val (.int x2), .val (.int x3), .val (.int xp), .val (.int xq), .val (.int (kF xk)), .val (.ref b1), .val (.ref b5), .val (.int (c3F (kF xk))), .val (.ref b12)] [(.int (16 : Int32)), (.ref b12)])) _
    refine XS.iload X14.here hx rfl (hb hby at_133) rfl ?_
    show Steps p.tables e below (T14.setTop (mkF m 135 #[.val (.int xk), .val (.int x1), .val (.int x2), .val (.int x3), .val (.int xp), .val (.int xq), .val (.int (kF xk)), .val (.ref b1), .val (.ref b5), .val (.int (c3F (kF xk))), .val (.ref b12)] [(.int (kF xk)), (.int (16 : Int32)), (.ref b12)])) _
    refine XS.aload X14.here hx rfl (hb hby at_135) rfl rfl ?_
    show Steps p.tables e below (T14.setTop (mkF m 137 #[.val (.int xk), .val (.int x1), .val (.int x2), .val (.int x3), .val (.int xp), .val (.int xq), .val (.int (kF xk)), .val (.ref b1), .val (.ref b5), .val (.int (c3F (kF xk))), .val (.ref b12)] [(.ref b1), (.int (kF xk)), (.int (16 : Int32)), (.ref b12)])) _
    refine XS.iloadN X14.here hx rfl (hb hby at_137) rfl ?_
    show Steps p.tables e below (T14.setTop (mkF m 138 #[.val (.int xk), .val (.int x1), .val (.int x2), .val (.int x3), .val (.int xp), .val (.int xq), .val (.int (kF xk)), .val (.ref b1), .val (.ref b5), .val (.int (c3F (kF xk))), .val (.ref b12)] [(.int x1), (.ref b1), (.int (kF xk)), (.int (16 : Int32)), (.ref b12)])) _
    refine XS.iloadN X14.here hx rfl (hb hby at_138) rfl ?_
    show Steps p.tables e below (T14.setTop (mkF m 139 #[.val (.int xk), .val (.int x1), .val (.int x2), .val (.int x3), .val (.int xp), .val (.int xq), .val (.int (kF xk)), .val (.ref b1), .val (.ref b5), .val (.int (c3F (kF xk))), .val (.ref b12)] [(.int x2), (.int x1), (.ref b1), (.int (kF xk)), (.int (16 : Int32)), (.ref b12)])) _
    refine XS.iloadN X14.here hx rfl (hb hby at_139) rfl ?_
    show Steps p.tables e below (T14.setTop (mkF m 140 #[.val (.int xk), .val (.int x1), .val (.int x2), .val (.int x3), .val (.int xp), .val (.int xq), .val (.int (kF xk)), .val (.ref b1), .val (.ref b5), .val (.int (c3F (kF xk))), .val (.ref b12)] [(.int x3), (.int x2), (.int x1), (.ref b1), (.int (kF xk)), (.int (16 : Int32)), (.ref b12)])) _
    refine st15 _ ?_
    show Steps p.tables e below (T15.setTop (mkF m 143 #[.val (.int xk), .val (.int x1), .val (.int x2), .val (.int x3), .val (.int xp), .val (.int xq), .val (.int (kF xk)), .val (.ref b1), .val (.ref b5), .val (.int (c3F (kF xk))), .val (.ref b12)] [(.int (atF (zsF (kF xk) (ysF xp xq) x1 x2 x3) (16 : Int32) (kF xk) (ysF xp xq) x1 x2 x3))])) _
    refine XS.ifNo X15.here hx rfl (hb hby at_143) rfl ((if0 _ _).trans (feq (one0 _)).1) ?_
    show Steps p.tables e below (T15.setTop (mkF m 146 #[.val (.int xk), .val (.int x1), .val (.int x2), .val (.int x3), .val (.int xp), .val (.int xq), .val (.int (kF xk)), .val (.ref b1), .val (.ref b5), .val (.int (c3F (kF xk))), .val (.ref b12)] [])) _
    refine XS.aload X15.here hx rfl (hb hby at_146) rfl rfl ?_
    show Steps p.tables e below (T15.setTop (mkF m 148 #[.val (.int xk), .val (.int x1), .val (.int x2), .val (.int x3), .val (.int xp), .val (.int xq), .val (.int (kF xk)), .val (.ref b1), .val (.ref b5), .val (.int (c3F (kF xk))), .val (.ref b12)] [(.ref b12)])) _
    refine XS.bipush X15.here hx rfl (hb hby at_148) ?_
    show Steps p.tables e below (T15.setTop (mkF m 150 #[.val (.int xk), .val (.int x1), .val (.int x2), .val (.int x3), .val (.int xp), .val (.int xq), .val (.int (kF xk)), .val (.ref b1), .val (.ref b5), .val (.int (c3F (kF xk))), .val (.ref b12)] [(.int (31 : Int32)), (.ref b12)])) _
    refine XS.iload X15.here hx rfl (hb hby at_150) rfl ?_
    show Steps p.tables e below (T15.setTop (mkF m 152 #[.val (.int xk), .val (.int x1), .val (.int x2), .val (.int x3), .val (.int xp), .val (.int xq), .val (.int (kF xk)), .val (.ref b1), .val (.ref b5), .val (.int (c3F (kF xk))), .val (.ref b12)] [(.int (kF xk)), (.int (31 : Int32)), (.ref b12)])) _
    refine XS.aload X15.here hx rfl (hb hby at_152) rfl rfl ?_
    show Steps p.tables e below (T15.setTop (mkF m 154 #[.val (.int xk), .val (.int x1), .val (.int x2), .val (.int x3), .val (.int xp), .val (.int xq), .val (.int (kF xk)), .val (.ref b1), .val (.ref b5), .val (.int (c3F (kF xk))), .val (.ref b12)] [(.ref b1), (.int (kF xk)), (.int (31 : Int32)), (.ref b12)])) _
    refine XS.iloadN X15.here hx rfl (hb hby at_154) rfl ?_
    show Steps p.tables e below (T15.setTop (mkF m 155 #[.val (.int xk), .val (.int x1), .val (.int x2), .val (.int x3), .val (.int xp), .val (.int xq), .val (.int (kF xk)), .val (.ref b1), .val (.ref b5), .val (.int (c3F (kF xk))), .val (.ref b12)] [(.int x1), (.ref b1), (.int (kF xk)), (.int (31 : Int32)), (.ref b12)])) _
    refine XS.iloadN X15.here hx rfl (hb hby at_155) rfl ?_
    show Steps p.tables e below (T15.setTop (mkF m 156 #[.val (.int xk), .val (.int x1), .val (.int x2), .val (.int x3), .val (.int xp), .val (.int xq), .val (.int (kF xk)), .val (.ref b1), .val (.ref b5), .val (.int (c3F (kF xk))), .val (.ref b12)] [(.int x2), (.int x1), (.ref b1), (.int (kF xk)), (.int (31 : Int32)), (.ref b12)])) _
    refine XS.iloadN X15.here hx rfl (hb hby at_156) rfl ?_
    show Steps p.tables e below (T15.setTop (mkF m 157 #[.val (.int xk), .val (.int x1), .val (.int x2), .val (.int x3), .val (.int xp), .val (.int xq), .val (.int (kF xk)), .val (.ref b1), .val (.ref b5), .val (.int (c3F (kF xk))), .val (.ref b12)] [(.int x3), (.int x2), (.int x1), (.ref b1), (.int (kF xk)), (.int (31 : Int32)), (.ref b12)])) _
    refine st16 _ ?_
    show Steps p.tables e below (T16.setTop (mkF m 160 #[.val (.int xk), .val (.int x1), .val (.int x2), .val (.int x3), .val (.int xp), .val (.int xq), .val (.int (kF xk)), .val (.ref b1), .val (.ref b5), .val (.int (c3F (kF xk))), .val (.ref b12)] [(.int (atF (zsF (kF xk) (ysF xp xq) x1 x2 x3) (31 : Int32) (kF xk) (ysF xp xq) x1 x2 x3))])) _
    refine XS.ifNo X16.here hx rfl (hb hby at_160) rfl ((if0 _ _).trans (feq (one0 _)).1) ?_
    show Steps p.tables e below (T16.setTop (mkF m 163 #[.val (.int xk), .val (.int x1), .val (.int x2), .val (.int x3), .val (.int xp), .val (.int xq), .val (.int (kF xk)), .val (.ref b1), .val (.ref b5), .val (.int (c3F (kF xk))), .val (.ref b12)] [])) _
    refine XS.aload X16.here hx rfl (hb hby at_163) rfl rfl ?_
    show Steps p.tables e below (T16.setTop (mkF m 165 #[.val (.int xk), .val (.int x1), .val (.int x2), .val (.int x3), .val (.int xp), .val (.int xq), .val (.int (kF xk)), .val (.ref b1), .val (.ref b5), .val (.int (c3F (kF xk))), .val (.ref b12)] [(.ref b12)])) _
    refine XS.iload X16.here hx rfl (hb hby at_165) rfl ?_
    show Steps p.tables e below (T16.setTop (mkF m 167 #[.val (.int xk), .val (.int x1), .val (.int x2), .val (.int x3), .val (.int xp), .val (.int xq), .val (.int (kF xk)), .val (.ref b1), .val (.ref b5), .val (.int (c3F (kF xk))), .val (.ref b12)] [(.int (kF xk)), (.ref b12)])) _
    refine XS.iconst X16.here hx rfl (hb hby at_167) ?_
    show Steps p.tables e below (T16.setTop (mkF m 168 #[.val (.int xk), .val (.int x1), .val (.int x2), .val (.int x3), .val (.int xp), .val (.int xq), .val (.int (kF xk)), .val (.ref b1), .val (.ref b5), .val (.int (c3F (kF xk))), .val (.ref b12)] [(.int (1 : Int32)), (.int (kF xk)), (.ref b12)])) _
    refine XS.isub X16.here hx rfl (hb hby at_168) rfl ?_
    show Steps p.tables e below (T16.setTop (mkF m 169 #[.val (.int xk), .val (.int x1), .val (.int x2), .val (.int x3), .val (.int xp), .val (.int xq), .val (.int (kF xk)), .val (.ref b1), .val (.ref b5), .val (.int (c3F (kF xk))), .val (.ref b12)] [(.int ((kF xk) - (1 : Int32))), (.ref b12)])) _
    refine XS.iload X16.here hx rfl (hb hby at_169) rfl ?_
    show Steps p.tables e below (T16.setTop (mkF m 171 #[.val (.int xk), .val (.int x1), .val (.int x2), .val (.int x3), .val (.int xp), .val (.int xq), .val (.int (kF xk)), .val (.ref b1), .val (.ref b5), .val (.int (c3F (kF xk))), .val (.ref b12)] [(.int (kF xk)), (.int ((kF xk) - (1 : Int32))), (.ref b12)])) _
    refine XS.aload X16.here hx rfl (hb hby at_171) rfl rfl ?_
    show Steps p.tables e below (T16.setTop (mkF m 173 #[.val (.int xk), .val (.int x1), .val (.int x2), .val (.int x3), .val (.int xp), .val (.int xq), .val (.int (kF xk)), .val (.ref b1), .val (.ref b5), .val (.int (c3F (kF xk))), .val (.ref b12)] [(.ref b1), (.int (kF xk)), (.int ((kF xk) - (1 : Int32))), (.ref b12)])) _
    refine XS.iloadN X16.here hx rfl (hb hby at_173) rfl ?_
    show Steps p.tables e below (T16.setTop (mkF m 174 #[.val (.int xk), .val (.int x1), .val (.int x2), .val (.int x3), .val (.int xp), .val (.int xq), .val (.int (kF xk)), .val (.ref b1), .val (.ref b5), .val (.int (c3F (kF xk))), .val (.ref b12)] [(.int x1), (.ref b1), (.int (kF xk)), (.int ((kF xk) - (1 : Int32))), (.ref b12)])) _
    refine XS.iloadN X16.here hx rfl (hb hby at_174) rfl ?_
    show Steps p.tables e below (T16.setTop (mkF m 175 #[.val (.int xk), .val (.int x1), .val (.int x2), .val (.int x3), .val (.int xp), .val (.int xq), .val (.int (kF xk)), .val (.ref b1), .val (.ref b5), .val (.int (c3F (kF xk))), .val (.ref b12)] [(.int x2), (.int x1), (.ref b1), (.int (kF xk)), (.int ((kF xk) - (1 : Int32))), (.ref b12)])) _
    refine XS.iloadN X16.here hx rfl (hb hby at_175) rfl ?_
    show Steps p.tables e below (T16.setTop (mkF m 176 #[.val (.int xk), .val (.int x1), .val (.int x2), .val (.int x3), .val (.int xp), .val (.int xq), .val (.int (kF xk)), .val (.ref b1), .val (.ref b5), .val (.int (c3F (kF xk))), .val (.ref b12)] [(.int x3), (.int x2), (.int x1), (.ref b1), (.int (kF xk)), (.int ((kF xk) - (1 : Int32))), (.ref b12)])) _
    refine st17 _ ?_
    show Steps p.tables e below (T17.setTop (mkF m 179 #[.val (.int xk), .val (.int x1), .val (.int x2), .val (.int x3), .val (.int xp), .val (.int xq), .val (.int (kF xk)), .val (.ref b1), .val (.ref b5), .val (.int (c3F (kF xk))), .val (.ref b12)] [(.int (atF (zsF (kF xk) (ysF xp xq) x1 x2 x3) ((kF xk) - (1 : Int32)) (kF xk) (ysF xp xq) x1 x2 x3))])) _
    refine XS.ifNo X17.here hx rfl (hb hby at_179) rfl ((if0 _ _).trans (feq (one0 _)).1) ?_
    show Steps p.tables e below (T17.setTop (mkF m 182 #[.val (.int xk), .val (.int x1), .val (.int x2), .val (.int x3), .val (.int xp), .val (.int xq), .val (.int (kF xk)), .val (.ref b1), .val (.ref b5), .val (.int (c3F (kF xk))), .val (.ref b12)] [])) _
    refine XS.aload X17.here hx rfl (hb hby at_182) rfl rfl ?_
    show Steps p.tables e below (T17.setTop (mkF m 184 #[.val (.int xk), .val (.int x1), .val (.int x2), .val (.int x3), .val (.int xp), .val (.int xq), .val (.int (kF xk)), .val (.ref b1), .val (.ref b5), .val (.int (c3F (kF xk))), .val (.ref b12)] [(.ref b12)])) _
    refine XS.iload X17.here hx rfl (hb hby at_184) rfl ?_
    show Steps p.tables e below (T17.setTop (mkF m 186 #[.val (.int xk), .val (.int x1), .val (.int x2), .val (.int x3), .val (.int xp), .val (.int xq), .val (.int (kF xk)), .val (.ref b1), .val (.ref b5), .val (.int (c3F (kF xk))), .val (.ref b12)] [(.int (kF xk)), (.ref b12)])) _
    refine XS.iload X17.here hx rfl (hb hby at_186) rfl ?_
    show Steps p.tables e below (T17.setTop (mkF m 188 #[.val (.int xk), .val (.int x1), .val (.int x2), .val (.int x3), .val (.int xp), .val (.int xq), .val (.int (kF xk)), .val (.ref b1), .val (.ref b5), .val (.int (c3F (kF xk))), .val (.ref b12)] [(.int (kF xk)), (.int (kF xk)), (.ref b12)])) _
    refine XS.aload X17.here hx rfl (hb hby at_188) rfl rfl ?_
    show Steps p.tables e below (T17.setTop (mkF m 190 #[.val (.int xk), .val (.int x1), .val (.int x2), .val (.int x3), .val (.int xp), .val (.int xq), .val (.int (kF xk)), .val (.ref b1), .val (.ref b5), .val (.int (c3F (kF xk))), .val (.ref b12)] [(.ref b1), (.int (kF xk)), (.int (kF xk)), (.ref b12)])) _
    refine XS.iloadN X17.here hx rfl (hb hby at_190) rfl ?_
    show Steps p.tables e below (T17.setTop (mkF m 191 #[.val (.int xk), .val (.int x1), .val (.int x2), .val (.int x3), .val (.int xp), .val (.int xq), .val (.int (kF xk)), .val (.ref b1), .val (.ref b5), .val (.int (c3F (kF xk))), .val (.ref b12)] [(.int x1), (.ref b1), (.int (kF xk)), (.int (kF xk)), (.ref b12)])) _
    refine XS.iloadN X17.here hx rfl (hb hby at_191) rfl ?_
    show Steps p.tables e below (T17.setTop (mkF m 192 #[.val (.int xk), .val (.int x1), .val (.int x2), .val (.int x3), .val (.int xp), .val (.int xq), .val (.int (kF xk)), .val (.ref b1), .val (.ref b5), .val (.int (c3F (kF xk))), .val (.ref b12)] [(.int x2), (.int x1), (.ref b1), (.int (kF xk)), (.int (kF xk)), (.ref b12)])) _
    refine XS.iloadN X17.here hx rfl (hb hby at_192) rfl ?_
    show Steps p.tables e below (T17.setTop (mkF m 193 #[.val (.int xk), .val (.int x1), .val (.int x2), .val (.int x3), .val (.int xp), .val (.int xq), .val (.int (kF xk)), .val (.ref b1), .val (.ref b5), .val (.int (c3F (kF xk))), .val (.ref b12)] [(.int x3), (.int x2), (.int x1), (.ref b1), (.int (kF xk)), (.int (kF xk)), (.ref b12)])) _
    refine st18 _ ?_
    show Steps p.tables e below (T18.setTop (mkF m 196 #[.val (.int xk), .val (.int x1), .val (.int x2), .val (.int x3), .val (.int xp), .val (.int xq), .val (.int (kF xk)), .val (.ref b1), .val (.ref b5), .val (.int (c3F (kF xk))), .val (.ref b12)] [(.int (atF (zsF (kF xk) (ysF xp xq) x1 x2 x3) (kF xk) (kF xk) (ysF xp xq) x1 x2 x3))])) _
    refine XS.ifNo X18.here hx rfl (hb hby at_196) rfl ((if0 _ _).trans (feq (one0 _)).1) ?_
    show Steps p.tables e below (T18.setTop (mkF m 199 #[.val (.int xk), .val (.int x1), .val (.int x2), .val (.int x3), .val (.int xp), .val (.int xq), .val (.int (kF xk)), .val (.ref b1), .val (.ref b5), .val (.int (c3F (kF xk))), .val (.ref b12)] [])) _
    refine XS.aload X18.here hx rfl (hb hby at_199) rfl rfl ?_
    show Steps p.tables e below (T18.setTop (mkF m 201 #[.val (.int xk), .val (.int x1), .val (.int x2), .val (.int x3), .val (.int xp), .val (.int xq), .val (.int (kF xk)), .val (.ref b1), .val (.ref b5), .val (.int (c3F (kF xk))), .val (.ref b12)] [(.ref b12)])) _
    refine XS.iload X18.here hx rfl (hb hby at_201) rfl ?_
    show Steps p.tables e below (T18.setTop (mkF m 203 #[.val (.int xk), .val (.int x1), .val (.int x2), .val (.int x3), .val (.int xp), .val (.int xq), .val (.int (kF xk)), .val (.ref b1), .val (.ref b5), .val (.int (c3F (kF xk))), .val (.ref b12)] [(.int (kF xk)), (.ref b12)])) _
    refine XS.iconst X18.here hx rfl (hb hby at_203) ?_
    show Steps p.tables e below (T18.setTop (mkF m 204 #[.val (.int xk), .val (.int x1), .val (.int x2), .val (.int x3), .val (.int xp), .val (.int xq), .val (.int (kF xk)), .val (.ref b1), .val (.ref b5), .val (.int (c3F (kF xk))), .val (.ref b12)] [(.int (1 : Int32)), (.int (kF xk)), (.ref b12)])) _
    refine XS.iadd X18.here hx rfl (hb hby at_204) rfl ?_
    show Steps p.tables e below (T18.setTop (mkF m 205 #[.val (.int xk), .val (.int x1), .val (.int x2), .val (.int x3), .val (.int xp), .val (.int xq), .val (.int (kF xk)), .val (.ref b1), .val (.ref b5), .val (.int (c3F (kF xk))), .val (.ref b12)] [(.int ((kF xk) + (1 : Int32))), (.ref b12)])) _
    refine XS.iload X18.here hx rfl (hb hby at_205) rfl ?_
    show Steps p.tables e below (T18.setTop (mkF m 207 #[.val (.int xk), .val (.int x1), .val (.int x2), .val (.int x3), .val (.int xp), .val (.int xq), .val (.int (kF xk)), .val (.ref b1), .val (.ref b5), .val (.int (c3F (kF xk))), .val (.ref b12)] [(.int (kF xk)), (.int ((kF xk) + (1 : Int32))), (.ref b12)])) _
    refine XS.aload X18.here hx rfl (hb hby at_207) rfl rfl ?_
    show Steps p.tables e below (T18.setTop (mkF m 209 #[.val (.int xk), .val (.int x1), .val (.int x2), .val (.int x3), .val (.int xp), .val (.int xq), .val (.int (kF xk)), .val (.ref b1), .val (.ref b5), .val (.int (c3F (kF xk))), .val (.ref b12)] [(.ref b1), (.int (kF xk)), (.int ((kF xk) + (1 : Int32))), (.ref b12)])) _
    refine XS.iloadN X18.here hx rfl (hb hby at_209) rfl ?_
    show Steps p.tables e below (T18.setTop (mkF m 210 #[.val (.int xk), .val (.int x1), .val (.int x2), .val (.int x3), .val (.int xp), .val (.int xq), .val (.int (kF xk)), .val (.ref b1), .val (.ref b5), .val (.int (c3F (kF xk))), .val (.ref b12)] [(.int x1), (.ref b1), (.int (kF xk)), (.int ((kF xk) + (1 : Int32))), (.ref b12)])) _
    refine XS.iloadN X18.here hx rfl (hb hby at_210) rfl ?_
    show Steps p.tables e below (T18.setTop (mkF m 211 #[.val (.int xk), .val (.int x1), .val (.int x2), .val (.int x3), .val (.int xp), .val (.int xq), .val (.int (kF xk)), .val (.ref b1), .val (.ref b5), .val (.int (c3F (kF xk))), .val (.ref b12)] [(.int x2), (.int x1), (.ref b1), (.int (kF xk)), (.int ((kF xk) + (1 : Int32))), (.ref b12)])) _
    refine XS.iloadN X18.here hx rfl (hb hby at_211) rfl ?_
    show Steps p.tables e below (T18.setTop (mkF m 212 #[.val (.int xk), .val (.int x1), .val (.int x2), .val (.int x3), .val (.int xp), .val (.int xq), .val (.int (kF xk)), .val (.ref b1), .val (.ref b5), .val (.int (c3F (kF xk))), .val (.ref b12)] [(.int x3), (.int x2), (.int x1), (.ref b1), (.int (kF xk)), (.int ((kF xk) + (1 : Int32))), (.ref b12)])) _
    refine st19 _ ?_
    show Steps p.tables e below (T19.setTop (mkF m 215 #[.val (.int xk), .val (.int x1), .val (.int x2), .val (.int x3), .val (.int xp), .val (.int xq), .val (.int (kF xk)), .val (.ref b1), .val (.ref b5), .val (.int (c3F (kF xk))), .val (.ref b12)] [(.int (atF (zsF (kF xk) (ysF xp xq) x1 x2 x3) ((kF xk) + (1 : Int32)) (kF xk) (ysF xp xq) x1 x2 x3))])) _
    refine XS.ifNo X19.here hx rfl (hb hby at_215) rfl ((if0 _ _).trans (feq (one0 _)).1) ?_
    show Steps p.tables e below (T19.setTop (mkF m 218 #[.val (.int xk), .val (.int x1), .val (.int x2), .val (.int x3), .val (.int xp), .val (.int xq), .val (.int (kF xk)), .val (.ref b1), .val (.ref b5), .val (.int (c3F (kF xk))), .val (.ref b12)] [])) _
    refine XS.aload X19.here hx rfl (hb hby at_218) rfl rfl ?_
    show Steps p.tables e below (T19.setTop (mkF m 220 #[.val (.int xk), .val (.int x1), .val (.int x2), .val (.int x3), .val (.int xp), .val (.int xq), .val (.int (kF xk)), .val (.ref b1), .val (.ref b5), .val (.int (c3F (kF xk))), .val (.ref b12)] [(.ref b12)])) _
    refine XS.iload X19.here hx rfl (hb hby at_220) rfl ?_
    show Steps p.tables e below (T19.setTop (mkF m 222 #[.val (.int xk), .val (.int x1), .val (.int x2), .val (.int x3), .val (.int xp), .val (.int xq), .val (.int (kF xk)), .val (.ref b1), .val (.ref b5), .val (.int (c3F (kF xk))), .val (.ref b12)] [(.int (kF xk)), (.ref b12)])) _
    refine XS.iconst X19.here hx rfl (hb hby at_222) ?_
    show Steps p.tables e below (T19.setTop (mkF m 223 #[.val (.int xk), .val (.int x1), .val (.int x2), .val (.int x3), .val (.int xp), .val (.int xq), .val (.int (kF xk)), .val (.ref b1), .val (.ref b5), .val (.int (c3F (kF xk))), .val (.ref b12)] [(.int (2 : Int32)), (.int (kF xk)), (.ref b12)])) _
    refine XS.iadd X19.here hx rfl (hb hby at_223) rfl ?_
    show Steps p.tables e below (T19.setTop (mkF m 224 #[.val (.int xk), .val (.int x1), .val (.int x2), .val (.int x3), .val (.int xp), .val (.int xq), .val (.int (kF xk)), .val (.ref b1), .val (.ref b5), .val (.int (c3F (kF xk))), .val (.ref b12)] [(.int ((kF xk) + (2 : Int32))), (.ref b12)])) _
    refine XS.iload X19.here hx rfl (hb hby at_224) rfl ?_
    show Steps p.tables e below (T19.setTop (mkF m 226 #[.val (.int xk), .val (.int x1), .val (.int x2), .val (.int x3), .val (.int xp), .val (.int xq), .val (.int (kF xk)), .val (.ref b1), .val (.ref b5), .val (.int (c3F (kF xk))), .val (.ref b12)] [(.int (kF xk)), (.int ((kF xk) + (2 : Int32))), (.ref b12)])) _
    refine XS.aload X19.here hx rfl (hb hby at_226) rfl rfl ?_
    show Steps p.tables e below (T19.setTop (mkF m 228 #[.val (.int xk), .val (.int x1), .val (.int x2), .val (.int x3), .val (.int xp), .val (.int xq), .val (.int (kF xk)), .val (.ref b1), .val (.ref b5), .val (.int (c3F (kF xk))), .val (.ref b12)] [(.ref b1), (.int (kF xk)), (.int ((kF xk) + (2 : Int32))), (.ref b12)])) _
    refine XS.iloadN X19.here hx rfl (hb hby at_228) rfl ?_
    show Steps p.tables e below (T19.setTop (mkF m 229 #[.val (.int xk), .val (.int x1), .val (.int x2), .val (.int x3), .val (.int xp), .val (.int xq), .val (.int (kF xk)), .val (.ref b1), .val (.ref b5), .val (.int (c3F (kF xk))), .val (.ref b12)] [(.int x1), (.ref b1), (.int (kF xk)), (.int ((kF xk) + (2 : Int32))), (.ref b12)])) _
    refine XS.iloadN X19.here hx rfl (hb hby at_229) rfl ?_
    show Steps p.tables e below (T19.setTop (mkF m 230 #[.val (.int xk), .val (.int x1), .val (.int x2), .val (.int x3), .val (.int xp), .val (.int xq), .val (.int (kF xk)), .val (.ref b1), .val (.ref b5), .val (.int (c3F (kF xk))), .val (.ref b12)] [(.int x2), (.int x1), (.ref b1), (.int (kF xk)), (.int ((kF xk) + (2 : Int32))), (.ref b12)])) _
    refine XS.iloadN X19.here hx rfl (hb hby at_230) rfl ?_
    show Steps p.tables e below (T19.setTop (mkF m 231 #[.val (.int xk), .val (.int x1), .val (.int x2), .val (.int x3), .val (.int xp), .val (.int xq), .val (.int (kF xk)), .val (.ref b1), .val (.ref b5), .val (.int (c3F (kF xk))), .val (.ref b12)] [(.int x3), (.int x2), (.int x1), (.ref b1), (.int (kF xk)), (.int ((kF xk) + (2 : Int32))), (.ref b12)])) _
    refine st20 _ ?_
    show Steps p.tables e below (T20.setTop (mkF m 234 #[.val (.int xk), .val (.int x1), .val (.int x2), .val (.int x3), .val (.int xp), .val (.int xq), .val (.int (kF xk)), .val (.ref b1), .val (.ref b5), .val (.int (c3F (kF xk))), .val (.ref b12)] [(.int (atF (zsF (kF xk) (ysF xp xq) x1 x2 x3) ((kF xk) + (2 : Int32)) (kF xk) (ysF xp xq) x1 x2 x3))])) _
    refine XS.ifNo X20.here hx rfl (hb hby at_234) rfl ((if0 _ _).trans (feq (one0 _)).1) ?_
    show Steps p.tables e below (T20.setTop (mkF m 237 #[.val (.int xk), .val (.int x1), .val (.int x2), .val (.int x3), .val (.int xp), .val (.int xq), .val (.int (kF xk)), .val (.ref b1), .val (.ref b5), .val (.int (c3F (kF xk))), .val (.ref b12)] [])) _
    refine XS.iconst X20.here hx rfl (hb hby at_237) ?_
    show Steps p.tables e below (T20.setTop (mkF m 238 #[.val (.int xk), .val (.int x1), .val (.int x2), .val (.int x3), .val (.int xp), .val (.int xq), .val (.int (kF xk)), .val (.ref b1), .val (.ref b5), .val (.int (c3F (kF xk))), .val (.ref b12)] [(.int (1 : Int32))])) _
    refine XS.goto X20.here hx rfl (pc0 := 238) (pc' := 242) rfl (hb hby at_238) (by decide) (by decide) ?_
    show Steps p.tables e below (T20.setTop (mkF m 242 #[.val (.int xk), .val (.int x1), .val (.int x2), .val (.int x3), .val (.int xp), .val (.int xq), .val (.int (kF xk)), .val (.ref b1), .val (.ref b5), .val (.int (c3F (kF xk))), .val (.ref b12)] [(.int (1 : Int32))])) _
    exact retN X20 hx (t := .boolean) Bd.returns (by simp) (hb hby at_242) hr
  · show Q_law Z xk x1 x2 x3 xp xq h0 n0 _ T20.heap _
    rw [e20]
    exact ⟨rfl, N20, trivial⟩
set_option maxRecDepth 65536 in
set_option maxHeartbeats 40000000 in
theorem comes_1 {Post : Tables → Env → Array Value → State → Outcome → State → Prop} (hpost : ∀ tb e args s v u, (limb_1_1.after args s (.returned v) u = true ∧ limb_1_2.after args s (.returned v) u = true ∧ True) → FrameEnd s (.returned v) u (Jvm.fieldLocs frame_1_writes args s ++ Jvm.arrayLocs frame_1_arrays args s ++ Jvm.staticLocs frame_1_statics s) 24 576 → Post tb e args s (.returned v) u) :
    ArmFor flags0 classFile x code maxLocals ret World_1 tables_1 room_1 Calls_1 rest_1 Pre_1 Post := by
  intro l hfl _ _ p e ha hc hk s m args below hf hA hF happ hP
  obtain ⟨hcalls, hrest, hpre⟩ := hP
  obtain ⟨-, -, -, hnamed, -, -, -, hat⟩ := (Spec.applies_iff hf).mp happ
  obtain ⟨hg, hn⟩ := and_e (Cond.before_iff.mp (show (Jvm.Cond.and given_1 narrow_1).before args s = true from hpre))
  obtain ⟨gc, g0⟩ := and_e hg
  obtain ⟨k0, g1⟩ := and_e g0
  obtain ⟨k1, g2⟩ := and_e g1
  obtain ⟨k2, g3⟩ := and_e g2
  obtain ⟨k3, g4⟩ := and_e g3
  obtain ⟨k4, g5⟩ := and_e g4
  have k5 := g5
  obtain ⟨w0, w1, w2, w3, w4, w5, rfl⟩ : ∃ w0 w1 w2 w3 w4 w5 : Value, args = #[w0, w1, w2, w3, w4, w5] := by
    have hs : args.size = 6 := by simpa [Cond.value, given_1] using gc
    obtain ⟨L⟩ := args
    match L, hs with
    | [w0, w1, w2, w3, w4, w5], _ => exact ⟨w0, w1, w2, w3, w4, w5, rfl⟩
  have hw := fun d (hd : d ∈ tables_1) => atoms_spec (ws := Jvm.Cond.code x code maxLocals ret :: tables_1) hat d (List.mem_cons_of_mem _ hd)
  obtain ⟨i0, ei0⟩ := is_v k0
  obtain rfl : w0 = (.int i0) := Option.some.inj ei0
  obtain ⟨i1, ei1⟩ := is_v k1
  obtain rfl : w1 = (.int i1) := Option.some.inj ei1
  obtain ⟨i2, ei2⟩ := is_v k2
  obtain rfl : w2 = (.int i2) := Option.some.inj ei2
  obtain ⟨i3, ei3⟩ := is_v k3
  obtain rfl : w3 = (.int i3) := Option.some.inj ei3
  obtain ⟨i4, ei4⟩ := is_v k4
  obtain rfl : w4 = (.int i4) := Option.some.inj ei4
  obtain ⟨i5, ei5⟩ := is_v k5
  obtain rfl : w5 = (.int i5) := Option.some.inj ei5
  obtain ⟨n, o, h1, h2, h3, v, L, rfl, hQ, hq⟩ := rm_law l s _ hw tables_1 i0 i1 i2 i3 i4 i5 s.heap s.heap.size (Nat.le_refl _)  p e ha hc hk s m _ below hf ((Spec.applies_iff_loose hf).mp happ).1 ⟨rfl, State.Warmed39.refl s, rfl⟩ trivial
  have hv : v = some (.int 1) := hQ.1
  subst hv
  have N := hQ.2.1
  refine ⟨n, _, h1, h2, h3, hpost _ _ _ _ _ _ ⟨Cond.after_iff.mpr rfl, Cond.after_iff.mpr (eq_i res_at (Term.int_eval (1)) rfl), trivial⟩ ⟨hq.1, hq.2.1, (hq.2.2.sift fun y hy => Or.inr (N y hy)).mono (by decide) (by decide)⟩⟩
theorem main_1_1 : Claimed_1_1 := comes_1 fun _ _ _ _ _ _ h hF => ⟨h.1, hF⟩
theorem main_1_2 : Claimed_1_2 := comes_1 fun _ _ _ _ _ _ h hF => ⟨h.2.1, hF⟩
end Jvm.Pilot.@@N@@
namespace Jvm.Pilot.@@N@@
open Jvm Jvm.ClassFile Sem Op Lib Jvm.Free Jvm.Stand Jvm.Pilot.@@N@@.Jvm.D
/-! MADE BY PROGRAM (witnessworld.py) out of the Statement's table words and the real class files: 19 classes; the members and pool entries that the words name. The judged class is class 1, her method 3. -/
namespace start1
open Jvm.ClassFile
def u (s : String) : CpInfo := .utf8 (stringToUtf16 s)
/-- a pool by its gaps: so many unusable entries, then the entry; so many at the end -/
def gap : Nat → List CpInfo → List CpInfo
  | 0, r => r
  | n + 1, r => .unusable :: gap n r
def poolList (es : List (Nat × CpInfo)) (last : Nat) : List CpInfo := es.foldr (fun e r => gap e.1 (e.2 :: r)) (gap last [])
def pool (es : List (Nat × CpInfo)) (last : Nat) : Array CpInfo := ⟨poolList es last⟩
def fileOf (pool : Array CpInfo) (this : Nat) (attrs : Array Attribute := #[]) (ms : Array MethodInfo := #[]) (fl : Nat := 33) (sup : Nat := 0) (ifs : Array Nat := #[]) (fds : Array FieldInfo := #[]) : ClassFile where
  minorVersion := 0
  majorVersion := 65
  constantPool := pool
  accessFlags := fl
  thisClass := this
  superClass := sup
  interfaces := ifs
  fields := fds
  methods := ms
  attributes := attrs
def plain (name : String) (sup : Option ClassId) : Class where
  name := name
  kind := .ordinary
  loader := none
  accessFlags := 33
  super := sup
  interfaces := #[]
  cf := none
  fields := #[]
  methods := #[]
  instanceTypes := #[]
  staticTypes := #[]
  resolved := #[]
  callSites := []
  init := .initialized
  statics := none
  mirror := none

def pool0 : Array CpInfo := pool [(5, u "<init>"), (0, u "()V"), (1, .class_ 10), (1, u "java/lang/Object"), (85, u "clone"), (0, u "()Ljava/lang/Object;")] 26

def k0c0 : Code := { maxStack := 0, maxLocals := 1, code := object_method_1_code, exceptionTable := #[], attributes := #[] }
def k0m0 : Method := { name := "<init>", desc := "()V", sig := { parameters := [], returnType := none }, accessFlags := 1, code := some k0c0 }
def k0m1 : Method := { name := "clone", desc := "()Ljava/lang/Object;", sig := { parameters := [], returnType := some (.object "java/lang/Object") }, accessFlags := 260, code := none }
/-- java/lang/Object -/
def k0 : Class := { plain "java/lang/Object" none with
  accessFlags := 33
  interfaces := #[]
  cf := some (fileOf pool0 8 #[] #[{ accessFlags := 1, nameIndex := 5, descriptorIndex := 6, attributes := #[] }, { accessFlags := 260, nameIndex := 96, descriptorIndex := 97, attributes := #[] }] 33 0 #[] #[])
  fields := #[]
  methods := #[k0m0, k0m1]
  instanceTypes := #[]
  staticTypes := #[]
  resolved := Array.replicate 124 none
  statics := none }

def pool1 : Array CpInfo := pool [(2, .class_ 4), (0, .nameAndType 5 6), (0, u "java/lang/Object"), (0, u "<init>"), (0, u "()V"), (0, .methodref 8 9), (0, .class_ 10), (0, .nameAndType 11 12), (0, u "com/example/driftstone/driftstone/core/RecordOutputWritePinLaw"), (0, u "expected"), (0, u "(II[BIII)I"), (0, .integer 2147483647), (0, .class_ 15), (0, u "com/example/driftstone/driftstone/core/RecordOutput"), (0, .methodref 14 3), (0, .methodref 14 18), (0, .nameAndType 19 20), (0, u "write"), (0, u "([BII)V"), (0, .methodref 14 22), (0, .nameAndType 19 23), (0, u "(I)V"), (0, .methodref 14 25), (0, .nameAndType 26 27), (0, u "size"), (0, u "()I"), (0, .methodref 14 29), (0, .nameAndType 30 31), (0, u "toByteArray"), (0, u "()[B"), (0, .methodref 8 33), (0, .nameAndType 34 35), (0, u "at"), (0, u "([BII[BIII)Z"), (3, u "law"), (0, u "(IIIIII)Z")] 4

def k1m0 : Method := { name := "<init>", desc := "()V", sig := { parameters := [], returnType := none }, accessFlags := 1, code := none }
def k1c1 : Code := { maxStack := 3, maxLocals := 6, code := method_2_code, exceptionTable := #[], attributes := #[] }
def k1m1 : Method := { name := "expected", desc := "(II[BIII)I", sig := { parameters := [.int, .int, (.array .byte), .int, .int, .int], returnType := some .int }, accessFlags := 10, code := some k1c1 }
def k1c2 : Code := { maxStack := 7, maxLocals := 7, code := method_3_code, exceptionTable := #[], attributes := #[] }
def k1m2 : Method := { name := "at", desc := "([BII[BIII)Z", sig := { parameters := [(.array .byte), .int, .int, (.array .byte), .int, .int, .int], returnType := some .boolean }, accessFlags := 10, code := some k1c2 }
def k1c3 : Code := { maxStack := 7, maxLocals := 11, code := code, exceptionTable := #[], attributes := #[] }
def k1m3 : Method := { name := "law", desc := "(IIIIII)Z", sig := { parameters := [.int, .int, .int, .int, .int, .int], returnType := some .boolean }, accessFlags := 9, code := some k1c3 }
/-- com/example/driftstone/driftstone/core/RecordOutputWritePinLaw -/
def k1 : Class := { plain "com/example/driftstone/driftstone/core/RecordOutputWritePinLaw" (some 0) with
  accessFlags := 49
  interfaces := #[]
  cf := some (fileOf pool1 8 #[] #[{ accessFlags := 1, nameIndex := 5, descriptorIndex := 6, attributes := #[] }, { accessFlags := 10, nameIndex := 11, descriptorIndex := 12, attributes := #[] }, { accessFlags := 10, nameIndex := 34, descriptorIndex := 35, attributes := #[] }, { accessFlags := 9, nameIndex := 39, descriptorIndex := 40, attributes := #[] }] 49 2 #[] #[])
  fields := #[]
  methods := #[k1m0, k1m1, k1m2, k1m3]
  instanceTypes := #[]
  staticTypes := #[]
  resolved := Array.replicate 45 none
  statics := none }

def pool2 : Array CpInfo := pool [(1, .class_ 2), (0, u "java/lang/AutoCloseable"), (0, .class_ 4), (0, u "java/lang/Object")] 7

/-- java/lang/AutoCloseable -/
def k2 : Class := { plain "java/lang/AutoCloseable" (some 0) with
  accessFlags := 1537
  interfaces := #[]
  cf := some (fileOf pool2 1 #[] #[] 1537 3 #[] #[])
  fields := #[]
  methods := #[]
  instanceTypes := #[]
  staticTypes := #[]
  resolved := Array.replicate 12 none
  statics := none }

def pool3 : Array CpInfo := pool [(1, .class_ 2), (0, u "java/io/Closeable"), (0, .class_ 4), (0, u "java/lang/Object"), (0, .class_ 6), (0, u "java/lang/AutoCloseable")] 7

/-- java/io/Closeable -/
def k3 : Class := { plain "java/io/Closeable" (some 0) with
  accessFlags := 1537
  interfaces := #[2]
  cf := some (fileOf pool3 1 #[] #[] 1537 3 #[5] #[])
  fields := #[]
  methods := #[]
  instanceTypes := #[]
  staticTypes := #[]
  resolved := Array.replicate 14 none
  statics := none }

def pool4 : Array CpInfo := pool [(1, .class_ 2), (0, u "java/io/Flushable"), (0, .class_ 4), (0, u "java/lang/Object")] 7

/-- java/io/Flushable -/
def k4 : Class := { plain "java/io/Flushable" (some 0) with
  accessFlags := 1537
  interfaces := #[]
  cf := some (fileOf pool4 1 #[] #[] 1537 3 #[] #[])
  fields := #[]
  methods := #[]
  instanceTypes := #[]
  staticTypes := #[]
  resolved := Array.replicate 12 none
  statics := none }

def pool5 : Array CpInfo := pool [(1, .methodref 2 3), (0, .class_ 4), (0, .nameAndType 5 6), (0, u "java/lang/Object"), (0, u "<init>"), (0, u "()V"), (0, .class_ 8), (0, u "java/io/OutputStream$1"), (2, .class_ 13), (1, u "java/io/OutputStream"), (11, .class_ 26), (0, u "java/io/Closeable"), (0, .class_ 28), (0, u "java/io/Flushable")] 24

def k5c0 : Code := { maxStack := 1, maxLocals := 1, code := jdk_2038_method_1_code, exceptionTable := #[], attributes := #[] }
def k5m0 : Method := { name := "<init>", desc := "()V", sig := { parameters := [], returnType := none }, accessFlags := 1, code := some k5c0 }
/-- java/io/OutputStream -/
def k5 : Class := { plain "java/io/OutputStream" (some 0) with
  accessFlags := 1057
  interfaces := #[3, 4]
  cf := some (fileOf pool5 11 #[.nestMembers #[7]] #[{ accessFlags := 1, nameIndex := 5, descriptorIndex := 6, attributes := #[] }] 1057 2 #[25, 27] #[])
  fields := #[]
  methods := #[k5m0]
  instanceTypes := #[]
  staticTypes := #[]
  resolved := Array.replicate 53 none
  statics := none }

def pool6 : Array CpInfo := pool [(1, .methodref 2 3), (0, .class_ 4), (0, .nameAndType 5 6), (0, u "java/io/ByteArrayOutputStream"), (0, u "<init>"), (0, u "(I)V"), (0, .methodref 8 9), (0, .class_ 10), (0, .nameAndType 5 11), (0, u "java/io/OutputStream"), (0, u "()V"), (21, .fieldref 2 34), (0, .nameAndType 35 36), (0, u "buf"), (0, u "[B"), (5, u "(III)I"), (0, .methodref 44 45), (0, .class_ 46), (0, .nameAndType 47 48), (0, u "java/util/Arrays"), (0, u "copyOf"), (0, u "([BI)[B"), (0, .fieldref 2 50), (0, .nameAndType 51 52), (0, u "count"), (0, u "I"), (0, .methodref 2 54), (0, .nameAndType 55 6), (0, u "ensureCapacity"), (0, .methodref 57 58), (0, .class_ 59), (0, .nameAndType 60 42), (0, u "java/util/Objects"), (0, u "checkFromIndexSize"), (0, .methodref 62 63), (0, .class_ 64), (0, .nameAndType 65 66), (0, u "java/lang/System"), (0, u "arraycopy"), (0, u "(Ljava/lang/Object;ILjava/lang/Object;II)V"), (2, u "write"), (0, u "([BII)V"), (32, u "size"), (22, u "toByteArray"), (0, u "()[B"), (0, u "()I")] 16

def k6c0 : Code := { maxStack := 2, maxLocals := 1, code := jdk_2005_method_1_code, exceptionTable := #[], attributes := #[] }
def k6m0 : Method := { name := "<init>", desc := "()V", sig := { parameters := [], returnType := none }, accessFlags := 1, code := some k6c0 }
def k6c1 : Code := { maxStack := 4, maxLocals := 2, code := jdk_2005_method_2_code, exceptionTable := #[], attributes := #[] }
def k6m1 : Method := { name := "<init>", desc := "(I)V", sig := { parameters := [.int], returnType := none }, accessFlags := 1, code := some k6c1 }
def k6c2 : Code := { maxStack := 5, maxLocals := 4, code := jdk_2005_method_3_code, exceptionTable := #[], attributes := #[] }
def k6m2 : Method := { name := "ensureCapacity", desc := "(I)V", sig := { parameters := [.int], returnType := none }, accessFlags := 2, code := some k6c2 }
def k6c3 : Code := { maxStack := 5, maxLocals := 4, code := ⟨#[0x1c, 0x1d, 0x2b, 0xbe, 0xb8, 0x00, 0x38, 0x57, 0x2a, 0x2a, 0xb4, 0x00, 0x31, 0x1d, 0x60, 0xb6, 0x00, 0x35, 0x2b, 0x1c, 0x2a, 0xb4, 0x00, 0x21, 0x2a, 0xb4, 0x00, 0x31, 0x1d, 0xb8, 0x00, 0x3d, 0x2a, 0x59, 0xb4, 0x00, 0x31, 0x1d, 0x60, 0xb5, 0x00, 0x31, 0xb1]⟩, exceptionTable := #[], attributes := #[] }
def k6m3 : Method := { name := "write", desc := "([BII)V", sig := { parameters := [(.array .byte), .int, .int], returnType := none }, accessFlags := 33, code := some k6c3 }
def k6c4 : Code := { maxStack := 2, maxLocals := 1, code := ⟨#[0x2a, 0xb4, 0x00, 0x21, 0x2a, 0xb4, 0x00, 0x31, 0xb8, 0x00, 0x2b, 0xb0]⟩, exceptionTable := #[], attributes := #[] }
def k6m4 : Method := { name := "toByteArray", desc := "()[B", sig := { parameters := [], returnType := some (.array .byte) }, accessFlags := 33, code := some k6c4 }
def k6c5 : Code := { maxStack := 1, maxLocals := 1, code := ⟨#[0x2a, 0xb4, 0x00, 0x31, 0xac]⟩, exceptionTable := #[], attributes := #[] }
def k6m5 : Method := { name := "size", desc := "()I", sig := { parameters := [], returnType := some .int }, accessFlags := 33, code := some k6c5 }
/-- java/io/ByteArrayOutputStream -/
def k6 : Class := { plain "java/io/ByteArrayOutputStream" (some 5) with
  accessFlags := 33
  interfaces := #[]
  cf := some (fileOf pool6 2 #[] #[{ accessFlags := 1, nameIndex := 5, descriptorIndex := 11, attributes := #[] }, { accessFlags := 1, nameIndex := 5, descriptorIndex := 6, attributes := #[] }, { accessFlags := 2, nameIndex := 55, descriptorIndex := 6, attributes := #[] }, { accessFlags := 33, nameIndex := 69, descriptorIndex := 70, attributes := #[] }, { accessFlags := 33, nameIndex := 126, descriptorIndex := 127, attributes := #[] }, { accessFlags := 33, nameIndex := 103, descriptorIndex := 128, attributes := #[] }] 33 8 #[] #[{ accessFlags := 4, nameIndex := 35, descriptorIndex := 36, attributes := #[] }, { accessFlags := 4, nameIndex := 51, descriptorIndex := 52, attributes := #[] }])
  fields := #[{ name := "buf", type := (.array .byte), accessFlags := 4, slot := 0, constantValue := 0 }, { name := "count", type := .int, accessFlags := 4, slot := 1, constantValue := 0 }]
  methods := #[k6m0, k6m1, k6m2, k6m3, k6m4, k6m5]
  instanceTypes := #[(.array .byte), .int]
  staticTypes := #[]
  resolved := Array.replicate 145 none
  statics := none }

def pool7 : Array CpInfo := pool [(1, .methodref 2 3), (0, .class_ 4), (0, .nameAndType 5 6), (0, u "java/io/ByteArrayOutputStream"), (0, u "<init>"), (0, u "()V"), (0, .fieldref 8 9), (0, .class_ 10), (0, .nameAndType 11 12), (0, u "com/example/driftstone/driftstone/core/RecordOutput"), (0, u "count"), (0, u "I"), (0, .fieldref 8 14), (0, .nameAndType 15 16), (0, u "buf"), (0, u "[B"), (0, .long 2), (1, .long 64), (3, .long 2147483639), (1, .methodref 26 27), (0, .class_ 28), (0, .nameAndType 29 30), (0, u "java/lang/Math"), (0, u "min"), (0, u "(JJ)J"), (0, .methodref 32 33), (0, .class_ 34), (0, .nameAndType 35 36), (0, u "java/util/Arrays"), (0, u "copyOf"), (0, u "([BI)[B"), (2, u "write"), (0, u "(I)V")] 3

def k7c0 : Code := { maxStack := 1, maxLocals := 1, code := prog_6_method_1_code, exceptionTable := #[], attributes := #[] }
def k7m0 : Method := { name := "<init>", desc := "()V", sig := { parameters := [], returnType := none }, accessFlags := 0, code := some k7c0 }
def k7c1 : Code := { maxStack := 6, maxLocals := 2, code := prog_6_method_2_code, exceptionTable := #[], attributes := #[] }
def k7m1 : Method := { name := "write", desc := "(I)V", sig := { parameters := [.int], returnType := none }, accessFlags := 1, code := some k7c1 }
/-- com/example/driftstone/driftstone/core/RecordOutput -/
def k7 : Class := { plain "com/example/driftstone/driftstone/core/RecordOutput" (some 6) with
  accessFlags := 48
  interfaces := #[]
  cf := some (fileOf pool7 8 #[] #[{ accessFlags := 0, nameIndex := 5, descriptorIndex := 6, attributes := #[] }, { accessFlags := 1, nameIndex := 39, descriptorIndex := 40, attributes := #[] }] 48 2 #[] #[])
  fields := #[]
  methods := #[k7m0, k7m1]
  instanceTypes := #[(.array .byte), .int]
  staticTypes := #[]
  resolved := Array.replicate 44 none
  statics := none }

def pool8 : Array CpInfo := pool [(2, .class_ 4), (1, u "java/lang/Object"), (0, u "<init>"), (0, u "()V"), (35, .class_ 44), (1, u "java/util/Objects"), (61, .class_ 108), (1, u "jdk/internal/util/Preconditions"), (5, u "(IIILjava/util/function/BiFunction;)I"), (0, .methodref 106 116), (0, .nameAndType 117 114), (0, u "checkFromIndexSize"), (57, u "(III)I")] 8

def k8m0 : Method := { name := "<init>", desc := "()V", sig := { parameters := [], returnType := none }, accessFlags := 2, code := none }
def k8c1 : Code := { maxStack := 4, maxLocals := 3, code := jdk_31_method_19_code, exceptionTable := #[], attributes := #[] }
def k8m1 : Method := { name := "checkFromIndexSize", desc := "(III)I", sig := { parameters := [.int, .int, .int], returnType := some .int }, accessFlags := 9, code := some k8c1 }
/-- java/util/Objects -/
def k8 : Class := { plain "java/util/Objects" (some 0) with
  accessFlags := 49
  interfaces := #[]
  cf := some (fileOf pool8 42 #[] #[{ accessFlags := 2, nameIndex := 5, descriptorIndex := 6, attributes := #[] }, { accessFlags := 9, nameIndex := 117, descriptorIndex := 175, attributes := #[] }] 49 2 #[] #[])
  fields := #[]
  methods := #[k8m0, k8m1]
  instanceTypes := #[]
  staticTypes := #[]
  resolved := Array.replicate 184 none
  statics := none }

def pool9 : Array CpInfo := pool [(2, .class_ 4), (1, u "java/lang/Object"), (0, u "<init>"), (0, u "()V"), (17, .class_ 26), (1, u "jdk/internal/util/Preconditions"), (22, u "checkFromIndexSize"), (5, .class_ 56), (0, u "jdk/internal/util/Preconditions$4"), (57, .class_ 115), (0, u "jdk/internal/util/Preconditions$1"), (7, u "SIOOBE_FORMATTER"), (0, u "Ljava/util/function/BiFunction;"), (0, .class_ 126), (0, u "jdk/internal/util/Preconditions$2"), (3, u "AIOOBE_FORMATTER"), (0, .class_ 132), (0, u "jdk/internal/util/Preconditions$3"), (3, u "IOOBE_FORMATTER"), (46, u "(IIILjava/util/function/BiFunction;)I")] 10

def k9m0 : Method := { name := "<init>", desc := "()V", sig := { parameters := [], returnType := none }, accessFlags := 1, code := none }
def k9c1 : Code := { maxStack := 4, maxLocals := 4, code := jdk_41_method_13_code, exceptionTable := #[], attributes := #[] }
def k9m1 : Method := { name := "checkFromIndexSize", desc := "(IIILjava/util/function/BiFunction;)I", sig := { parameters := [.int, .int, .int, (.object "java/util/function/BiFunction")], returnType := some .int }, accessFlags := 9, code := some k9c1 }
/-- jdk/internal/util/Preconditions -/
def k9 : Class := { plain "jdk/internal/util/Preconditions" (some 0) with
  accessFlags := 33
  interfaces := #[]
  cf := some (fileOf pool9 24 #[.nestMembers #[55, 131, 125, 114]] #[{ accessFlags := 1, nameIndex := 5, descriptorIndex := 6, attributes := #[] }, { accessFlags := 9, nameIndex := 49, descriptorIndex := 183, attributes := #[] }] 33 2 #[] #[{ accessFlags := 25, nameIndex := 123, descriptorIndex := 124, attributes := #[] }, { accessFlags := 25, nameIndex := 130, descriptorIndex := 124, attributes := #[] }, { accessFlags := 25, nameIndex := 136, descriptorIndex := 124, attributes := #[] }])
  fields := #[{ name := "SIOOBE_FORMATTER", type := (.object "java/util/function/BiFunction"), accessFlags := 25, slot := 0, constantValue := 0 }, { name := "AIOOBE_FORMATTER", type := (.object "java/util/function/BiFunction"), accessFlags := 25, slot := 1, constantValue := 0 }, { name := "IOOBE_FORMATTER", type := (.object "java/util/function/BiFunction"), accessFlags := 25, slot := 2, constantValue := 0 }]
  methods := #[k9m0, k9m1]
  instanceTypes := #[]
  staticTypes := #[(.object "java/util/function/BiFunction"), (.object "java/util/function/BiFunction"), (.object "java/util/function/BiFunction")]
  resolved := Array.replicate 194 none
  statics := none }

def pool10 : Array CpInfo := pool [(2, .class_ 4), (1, u "java/lang/Object"), (0, u "<init>"), (0, u "()V"), (1, .class_ 10), (1, u "java/lang/System"), (0, u "allowSecurityManager"), (0, u "I"), (16, u "cons"), (0, u "Ljava/io/Console;"), (77, .class_ 110), (1, u "java/lang/System$CallersHolder"), (43, u "initialErrStream"), (0, u "Ljava/io/PrintStream;"), (19, u "security"), (0, u "Ljava/lang/SecurityManager;"), (31, .class_ 209), (0, u "java/lang/System$1"), (7, u "props"), (0, u "Ljava/util/Properties;"), (2, u "lineSeparator"), (0, u "Ljava/lang/String;"), (96, .class_ 321), (1, u "java/lang/System$LoggerFinder"), (5, .class_ 328), (0, u "java/lang/System$Logger"), (67, u "err"), (2, u "out"), (91, u "notSupportedJnuEncoding"), (15, u "in"), (17, u "initialIn"), (0, u "Ljava/io/InputStream;"), (35, u "bootLayer"), (0, u "Ljava/lang/ModuleLayer;"), (99, .class_ 664), (0, u "java/lang/System$2"), (9, u "NEVER"), (2, u "MAYBE"), (49, u "arraycopy"), (0, u "(Ljava/lang/Object;ILjava/lang/Object;II)V"), (72, .class_ 802), (0, u "java/lang/System$Logger$Level")] 31

def k10m0 : Method := { name := "<init>", desc := "()V", sig := { parameters := [], returnType := none }, accessFlags := 2, code := none }
def k10m1 : Method := { name := "arraycopy", desc := "(Ljava/lang/Object;ILjava/lang/Object;II)V", sig := { parameters := [(.object "java/lang/Object"), .int, (.object "java/lang/Object"), .int, .int], returnType := none }, accessFlags := 265, code := none }
/-- java/lang/System -/
def k10 : Class := { plain "java/lang/System" (some 0) with
  accessFlags := 49
  interfaces := #[]
  cf := some (fileOf pool10 8 #[.nestMembers #[319, 327, 801, 108, 663, 208]] #[{ accessFlags := 2, nameIndex := 5, descriptorIndex := 6, attributes := #[] }, { accessFlags := 265, nameIndex := 727, descriptorIndex := 728, attributes := #[] }] 49 2 #[] #[{ accessFlags := 25, nameIndex := 507, descriptorIndex := 526, attributes := #[] }, { accessFlags := 25, nameIndex := 399, descriptorIndex := 155, attributes := #[] }, { accessFlags := 25, nameIndex := 396, descriptorIndex := 155, attributes := #[] }, { accessFlags := 10, nameIndex := 525, descriptorIndex := 526, attributes := #[] }, { accessFlags := 26, nameIndex := 674, descriptorIndex := 12, attributes := #[] }, { accessFlags := 26, nameIndex := 677, descriptorIndex := 12, attributes := #[] }, { accessFlags := 10, nameIndex := 11, descriptorIndex := 12, attributes := #[] }, { accessFlags := 74, nameIndex := 175, descriptorIndex := 176, attributes := #[] }, { accessFlags := 10, nameIndex := 491, descriptorIndex := 222, attributes := #[] }, { accessFlags := 74, nameIndex := 29, descriptorIndex := 30, attributes := #[] }, { accessFlags := 74, nameIndex := 154, descriptorIndex := 155, attributes := #[] }, { accessFlags := 10, nameIndex := 217, descriptorIndex := 218, attributes := #[] }, { accessFlags := 10, nameIndex := 221, descriptorIndex := 222, attributes := #[] }, { accessFlags := 8, nameIndex := 562, descriptorIndex := 563, attributes := #[] }])
  fields := #[{ name := "in", type := (.object "java/io/InputStream"), accessFlags := 25, slot := 0, constantValue := 0 }, { name := "out", type := (.object "java/io/PrintStream"), accessFlags := 25, slot := 1, constantValue := 0 }, { name := "err", type := (.object "java/io/PrintStream"), accessFlags := 25, slot := 2, constantValue := 0 }, { name := "initialIn", type := (.object "java/io/InputStream"), accessFlags := 10, slot := 3, constantValue := 0 }, { name := "NEVER", type := .int, accessFlags := 26, slot := 4, constantValue := 0 }, { name := "MAYBE", type := .int, accessFlags := 26, slot := 5, constantValue := 0 }, { name := "allowSecurityManager", type := .int, accessFlags := 10, slot := 6, constantValue := 0 }, { name := "security", type := (.object "java/lang/SecurityManager"), accessFlags := 74, slot := 7, constantValue := 0 }, { name := "notSupportedJnuEncoding", type := (.object "java/lang/String"), accessFlags := 10, slot := 8, constantValue := 0 }, { name := "cons", type := (.object "java/io/Console"), accessFlags := 74, slot := 9, constantValue := 0 }, { name := "initialErrStream", type := (.object "java/io/PrintStream"), accessFlags := 74, slot := 10, constantValue := 0 }, { name := "props", type := (.object "java/util/Properties"), accessFlags := 10, slot := 11, constantValue := 0 }, { name := "lineSeparator", type := (.object "java/lang/String"), accessFlags := 10, slot := 12, constantValue := 0 }, { name := "bootLayer", type := (.object "java/lang/ModuleLayer"), accessFlags := 8, slot := 13, constantValue := 0 }]
  methods := #[k10m0, k10m1]
  instanceTypes := #[]
  staticTypes := #[(.object "java/io/InputStream"), (.object "java/io/PrintStream"), (.object "java/io/PrintStream"), (.object "java/io/InputStream"), .int, .int, .int, (.object "java/lang/SecurityManager"), (.object "java/lang/String"), (.object "java/io/Console"), (.object "java/io/PrintStream"), (.object "java/util/Properties"), (.object "java/lang/String"), (.object "java/lang/ModuleLayer")]
  resolved := Array.replicate 834 none
  statics := none }

def pool11 : Array CpInfo := pool [(2, .class_ 4), (1, u "java/lang/Object"), (0, u "<init>"), (0, u "()V"), (7, .class_ 16), (1, u "java/util/Arrays"), (57, .class_ 76), (1, u "java/util/Arrays$NaturalOrder"), (32, u "()Ljava/lang/Object;"), (3, .class_ 115), (1, u "java/util/Arrays$LegacyMergeSort"), (1, u "Z"), (10, .nameAndType 129 109), (0, u "clone"), (20, .methodref 151 152), (0, .class_ 153), (0, .nameAndType 154 155), (0, u "java/lang/System"), (0, u "arraycopy"), (0, u "(Ljava/lang/Object;ILjava/lang/Object;II)V"), (146, u "copyOf"), (1, .methodref 305 306), (0, .class_ 307), (0, .nameAndType 308 309), (0, u "java/lang/Math"), (0, u "min"), (0, u "(II)I"), (0, .methodref 311 128), (0, .class_ 312), (0, u "[B"), (62, .class_ 376), (0, u "java/util/Arrays$ArrayList"), (68, u "$assertionsDisabled"), (269, u "MIN_ARRAY_SORT_GRAN"), (0, u "I"), (2, u "INSERTIONSORT_THRESHOLD"), (149, u "([BI)[B"), (105, .class_ 976), (0, u "java/util/Arrays$ArrayItr")] 52

def k11m0 : Method := { name := "<init>", desc := "()V", sig := { parameters := [], returnType := none }, accessFlags := 2, code := none }
def k11c1 : Code := { maxStack := 6, maxLocals := 3, code := jdk_65_method_121_code, exceptionTable := #[], attributes := #[] }
def k11m1 : Method := { name := "copyOf", desc := "([BI)[B", sig := { parameters := [(.array .byte), .int], returnType := some (.array .byte) }, accessFlags := 9, code := some k11c1 }
/-- java/util/Arrays -/
def k11 : Class := { plain "java/util/Arrays" (some 0) with
  accessFlags := 49
  interfaces := #[]
  cf := some (fileOf pool11 14 #[.nestMembers #[975, 375, 113, 74]] #[{ accessFlags := 2, nameIndex := 5, descriptorIndex := 6, attributes := #[] }, { accessFlags := 9, nameIndex := 302, descriptorIndex := 869, attributes := #[] }] 49 2 #[] #[{ accessFlags := 26, nameIndex := 715, descriptorIndex := 716, attributes := #[] }, { accessFlags := 26, nameIndex := 719, descriptorIndex := 716, attributes := #[] }, { accessFlags := 4120, nameIndex := 445, descriptorIndex := 117, attributes := #[] }])
  fields := #[{ name := "MIN_ARRAY_SORT_GRAN", type := .int, accessFlags := 26, slot := 0, constantValue := 0 }, { name := "INSERTIONSORT_THRESHOLD", type := .int, accessFlags := 26, slot := 1, constantValue := 0 }, { name := "$assertionsDisabled", type := .boolean, accessFlags := 4120, slot := 2, constantValue := 0 }]
  methods := #[k11m0, k11m1]
  instanceTypes := #[]
  staticTypes := #[.int, .int, .boolean]
  resolved := Array.replicate 1029 none
  statics := none }

def pool12 : Array CpInfo := pool [(1, .class_ 2), (0, u "java/lang/Math"), (1, .class_ 6), (1, u "java/lang/Object"), (0, u "<init>"), (0, u "()V"), (89, .class_ 100), (1, u "java/lang/Math$RandomNumberGeneratorHolder"), (20, u "(JJ)J"), (50, u "negativeZeroFloatBits"), (0, u "J"), (2, u "negativeZeroDoubleBits"), (24, u "min"), (43, u "$assertionsDisabled"), (0, u "Z"), (88, u "(II)I"), (2, u "twoToTheDoubleScaleDown"), (0, u "D"), (4, u "twoToTheDoubleScaleUp"), (9, u "E"), (3, u "PI"), (2, u "TAU"), (2, u "DEGREES_TO_RADIANS"), (0, u "RADIANS_TO_DEGREES")] 94

def k12m0 : Method := { name := "<init>", desc := "()V", sig := { parameters := [], returnType := none }, accessFlags := 2, code := none }
def k12c1 : Code := { maxStack := 2, maxLocals := 2, code := jdk_29_method_69_code, exceptionTable := #[], attributes := #[] }
def k12m1 : Method := { name := "min", desc := "(II)I", sig := { parameters := [.int, .int], returnType := some .int }, accessFlags := 9, code := some k12c1 }
def k12c2 : Code := { maxStack := 4, maxLocals := 4, code := jdk_29_method_70_code, exceptionTable := #[], attributes := #[] }
def k12m2 : Method := { name := "min", desc := "(JJ)J", sig := { parameters := [.long, .long], returnType := some .long }, accessFlags := 9, code := some k12c2 }
/-- java/lang/Math -/
def k12 : Class := { plain "java/lang/Math" (some 0) with
  accessFlags := 49
  interfaces := #[]
  cf := some (fileOf pool12 1 #[.nestMembers #[98]] #[{ accessFlags := 2, nameIndex := 7, descriptorIndex := 8, attributes := #[] }, { accessFlags := 9, nameIndex := 201, descriptorIndex := 335, attributes := #[] }, { accessFlags := 9, nameIndex := 201, descriptorIndex := 121, attributes := #[] }] 49 4 #[] #[{ accessFlags := 25, nameIndex := 354, descriptorIndex := 339, attributes := #[] }, { accessFlags := 25, nameIndex := 358, descriptorIndex := 339, attributes := #[] }, { accessFlags := 25, nameIndex := 361, descriptorIndex := 339, attributes := #[] }, { accessFlags := 26, nameIndex := 364, descriptorIndex := 339, attributes := #[] }, { accessFlags := 26, nameIndex := 365, descriptorIndex := 339, attributes := #[] }, { accessFlags := 26, nameIndex := 172, descriptorIndex := 173, attributes := #[] }, { accessFlags := 26, nameIndex := 176, descriptorIndex := 173, attributes := #[] }, { accessFlags := 8, nameIndex := 344, descriptorIndex := 339, attributes := #[] }, { accessFlags := 8, nameIndex := 338, descriptorIndex := 339, attributes := #[] }, { accessFlags := 4120, nameIndex := 245, descriptorIndex := 246, attributes := #[] }])
  fields := #[{ name := "E", type := .double, accessFlags := 25, slot := 0, constantValue := 0 }, { name := "PI", type := .double, accessFlags := 25, slot := 1, constantValue := 0 }, { name := "TAU", type := .double, accessFlags := 25, slot := 2, constantValue := 0 }, { name := "DEGREES_TO_RADIANS", type := .double, accessFlags := 26, slot := 3, constantValue := 0 }, { name := "RADIANS_TO_DEGREES", type := .double, accessFlags := 26, slot := 4, constantValue := 0 }, { name := "negativeZeroFloatBits", type := .long, accessFlags := 26, slot := 5, constantValue := 0 }, { name := "negativeZeroDoubleBits", type := .long, accessFlags := 26, slot := 6, constantValue := 0 }, { name := "twoToTheDoubleScaleUp", type := .double, accessFlags := 8, slot := 7, constantValue := 0 }, { name := "twoToTheDoubleScaleDown", type := .double, accessFlags := 8, slot := 8, constantValue := 0 }, { name := "$assertionsDisabled", type := .boolean, accessFlags := 4120, slot := 9, constantValue := 0 }]
  methods := #[k12m0, k12m1, k12m2]
  instanceTypes := #[]
  staticTypes := #[.double, .double, .double, .double, .double, .long, .long, .double, .double, .boolean]
  resolved := Array.replicate 460 none
  statics := none }

def pool13 : Array CpInfo := pool [(1, .class_ 2), (0, u "java/lang/Cloneable"), (0, .class_ 4), (0, u "java/lang/Object")] 2

/-- java/lang/Cloneable -/
def k13 : Class := { plain "java/lang/Cloneable" (some 0) with
  accessFlags := 1537
  interfaces := #[]
  cf := some (fileOf pool13 1 #[] #[] 1537 3 #[] #[])
  fields := #[]
  methods := #[]
  instanceTypes := #[]
  staticTypes := #[]
  resolved := Array.replicate 7 none
  statics := none }

def pool14 : Array CpInfo := pool [(1, u "java/io/Serializable"), (0, .class_ 1), (0, u "java/lang/Object"), (0, .class_ 3)] 3

/-- java/io/Serializable -/
def k14 : Class := { plain "java/io/Serializable" (some 0) with
  accessFlags := 1537
  interfaces := #[]
  cf := some (fileOf pool14 2 #[] #[] 1537 4 #[] #[])
  fields := #[]
  methods := #[]
  instanceTypes := #[]
  staticTypes := #[]
  resolved := Array.replicate 8 none
  statics := none }

/-- the primitive byte -/
def k15 : Class := { plain "byte" none with kind := .primitive 'B', accessFlags := 0x411 }
/-- [B -/
def k16 : Class := { plain "[B" (some 0) with kind := .array 15 .byte, interfaces := #[13, 14], accessFlags := 1041 }

/-- the primitive int -/
def k17 : Class := { plain "int" none with kind := .primitive 'I', accessFlags := 0x411 }
/-- [I -/
def k18 : Class := { plain "[I" (some 0) with kind := .array 17 .int, interfaces := #[13, 14], accessFlags := 1041 }

def heap : Heap := #[]
def classes : Array Class := #[k0, k1, k2, k3, k4, k5, k6, k7, k8, k9, k10, k11, k12, k13, k14, k15, k16, k17, k18]
def interned : List (Array UInt16 × Addr) := []
def slotsUsed : Nat := 0
def theMethod : MethodId := ⟨1, 3⟩
def args0 : Array Value := #[.int 5, .int 6, .int 1, .int 1, .int 4, .int 2]
def aboutOver (below : List Frame) : State where
  vm := { classes := classes, interned := interned.toArray }
  heap := heap
  slotsUsed := slotsUsed
  threads := #[{ frames := .invoking theMethod args0 :: below }]
def below0 : List Frame := [.native { method := ⟨0, 0⟩, args := #[] }]
def about1 : State := aboutOver below0
def p0 : Program := .bare "" "" ""
def e0 : Env := launch0.env 0 0 0
theorem w_frames : about1.frames = Frame.invoking theMethod args0 :: below0 := rfl
set_option maxRecDepth 65536 in
theorem w_args : argsFit about1.vm theMethod args0 = true := by decide +kernel
set_option maxRecDepth 65536 in
theorem w_heap : heapFits about1 = true := by decide +kernel
set_option maxRecDepth 65536 in
theorem w_runnable : about1.curStatus? = some .runnable := by decide +kernel
set_option maxRecDepth 65536 in
theorem w_alone : about1.alone = true := by decide +kernel
set_option maxRecDepth 65536 in
theorem w_named : about1.methodNamed? x = some theMethod := by decide +kernel
set_option maxRecDepth 65536 in
theorem w_hears : about1.hears theMethod below0 = true := by decide +kernel
set_option maxRecDepth 65536 in
theorem w_ripe : about1.ripe theMethod args0 below0 = true := by decide +kernel
theorem w_running : about1.status = .running := rfl
set_option maxRecDepth 65536 in
theorem w_room : about1.hasRoom e0.platform room_1 = true :=
  launch0.hasRoom_least _ room_1 (by decide +kernel) (by decide +kernel) (by decide +kernel) (by decide +kernel) (by decide +kernel) (by decide +kernel)
theorem allAtoms_all (ts : List Jvm.Cond) (a : Array Jvm.Value) (st : Jvm.State) : (allAtoms ts).before a st = ts.all (fun c => c.before a st) := by
  induction ts with
  | nil => rfl
  | cons c t ih =>
    show (Jvm.Cond.and c (allAtoms t)).before a st = _
    rw [Jvm.Cond.before_and, ih, List.all_cons]
def words1 : List Jvm.Cond := Jvm.Cond.code x code maxLocals ret :: tables_1
/-- a 'code' word, met by the world's own term for the bytes: nothing is compared byte by byte -/
theorem code_word {y : MethodName} {bytes : ByteArray} {mx : Nat} {rt : Option FieldType} {a : Array Value} {s : State} {m : MethodId} {meth : Method} {c : Code} (h1 : s.methodNamed? y = some m) (h2 : s.vm.method? m = some meth) (h3 : meth.code = some c) (h4 : c.code = bytes)
    (h5 : (c.maxLocals == mx && c.exceptionTable.isEmpty && decide (c.maxStack ≤ mostOperands) && decide (meth.sig.returnType = rt) && !meth.locks && decide (parseMethodDescriptor y.desc = some meth.sig)) = true) : (Jvm.Cond.code y bytes mx rt).before a s = true := by
  simp only [Bool.and_eq_true, beq_iff_eq, Bool.not_eq_true', decide_eq_true_eq] at h5
  obtain ⟨⟨⟨⟨⟨g1, g2⟩, g3⟩, g4⟩, g5⟩, g6⟩ := h5
  simp [Cond.before, Cond.holds, Cond.value, h1, h2, h3, h4, g1, g2, g3, g4, g5, g6]
def isCode : Jvm.Cond → Bool
  | .code _ _ _ _ => true
  | _ => false
theorem all_split {L : List Jvm.Cond} {P : Jvm.Cond → Bool} (h1 : L.all (fun c => isCode c || P c) = true) (h2 : ∀ c ∈ L.filter isCode, P c = true) : L.all P = true := by
  refine List.all_eq_true.mpr fun c hc => ?_
  have h := List.all_eq_true.mp h1 c hc
  rcases Bool.eq_false_or_eq_true (isCode c) with hi | hi
  · exact h2 c (List.mem_filter.mpr ⟨hc, hi⟩)
  · simpa [hi] using h
set_option maxRecDepth 65536 in
theorem w_c0 : (Jvm.Cond.code x code maxLocals ret).before args0 about1 = true := code_word (m := ⟨1, 3⟩) (meth := k1m3) (c := k1c3) (by decide +kernel) rfl rfl rfl (by decide +kernel)
set_option maxRecDepth 65536 in
theorem w_c1 : (Jvm.Cond.code ({ cls := "com/example/driftstone/driftstone/core/RecordOutput", name := "<init>", desc := "()V" } : Jvm.MethodName) prog_6_method_1_code (1 : Nat) (Option.none : Option Jvm.ClassFile.FieldType)).before args0 about1 = true := code_word (m := ⟨7, 0⟩) (meth := k7m0) (c := k7c0) (by decide +kernel) rfl rfl rfl (by decide +kernel)
set_option maxRecDepth 65536 in
theorem w_c2 : (Jvm.Cond.code ({ cls := "java/io/ByteArrayOutputStream", name := "<init>", desc := "()V" } : Jvm.MethodName) jdk_2005_method_1_code (1 : Nat) (Option.none : Option Jvm.ClassFile.FieldType)).before args0 about1 = true := code_word (m := ⟨6, 0⟩) (meth := k6m0) (c := k6c0) (by decide +kernel) rfl rfl rfl (by decide +kernel)
set_option maxRecDepth 65536 in
theorem w_c3 : (Jvm.Cond.code ({ cls := "java/io/ByteArrayOutputStream", name := "<init>", desc := "(I)V" } : Jvm.MethodName) jdk_2005_method_2_code (2 : Nat) (Option.none : Option Jvm.ClassFile.FieldType)).before args0 about1 = true := code_word (m := ⟨6, 1⟩) (meth := k6m1) (c := k6c1) (by decide +kernel) rfl rfl rfl (by decide +kernel)
set_option maxRecDepth 65536 in
theorem w_c4 : (Jvm.Cond.code ({ cls := "java/io/OutputStream", name := "<init>", desc := "()V" } : Jvm.MethodName) jdk_2038_method_1_code (1 : Nat) (Option.none : Option Jvm.ClassFile.FieldType)).before args0 about1 = true := code_word (m := ⟨5, 0⟩) (meth := k5m0) (c := k5c0) (by decide +kernel) rfl rfl rfl (by decide +kernel)
set_option maxRecDepth 65536 in
theorem w_c5 : (Jvm.Cond.code ({ cls := "java/lang/Object", name := "<init>", desc := "()V" } : Jvm.MethodName) object_method_1_code (1 : Nat) (Option.none : Option Jvm.ClassFile.FieldType)).before args0 about1 = true := code_word (m := ⟨0, 0⟩) (meth := k0m0) (c := k0c0) (by decide +kernel) rfl rfl rfl (by decide +kernel)
set_option maxRecDepth 65536 in
theorem w_c6 : (Jvm.Cond.code ({ cls := "java/util/Objects", name := "checkFromIndexSize", desc := "(III)I" } : Jvm.MethodName) jdk_31_method_19_code (3 : Nat) (Option.some Jvm.ClassFile.FieldType.int)).before args0 about1 = true := code_word (m := ⟨8, 1⟩) (meth := k8m1) (c := k8c1) (by decide +kernel) rfl rfl rfl (by decide +kernel)
set_option maxRecDepth 65536 in
theorem w_c7 : (Jvm.Cond.code ({ cls := "jdk/internal/util/Preconditions", name := "checkFromIndexSize", desc := "(IIILjava/util/function/BiFunction;)I" } : Jvm.MethodName) jdk_41_method_13_code (4 : Nat) (Option.some Jvm.ClassFile.FieldType.int)).before args0 about1 = true := code_word (m := ⟨9, 1⟩) (meth := k9m1) (c := k9c1) (by decide +kernel) rfl rfl rfl (by decide +kernel)
set_option maxRecDepth 65536 in
theorem w_c8 : (Jvm.Cond.code ({ cls := "java/io/ByteArrayOutputStream", name := "ensureCapacity", desc := "(I)V" } : Jvm.MethodName) jdk_2005_method_3_code (4 : Nat) (Option.none : Option Jvm.ClassFile.FieldType)).before args0 about1 = true := code_word (m := ⟨6, 2⟩) (meth := k6m2) (c := k6c2) (by decide +kernel) rfl rfl rfl (by decide +kernel)
set_option maxRecDepth 65536 in
theorem w_c9 : (Jvm.Cond.code ({ cls := "com/example/driftstone/driftstone/core/RecordOutput", name := "write", desc := "(I)V" } : Jvm.MethodName) prog_6_method_2_code (2 : Nat) (Option.none : Option Jvm.ClassFile.FieldType)).before args0 about1 = true := code_word (m := ⟨7, 1⟩) (meth := k7m1) (c := k7c1) (by decide +kernel) rfl rfl rfl (by decide +kernel)
set_option maxRecDepth 65536 in
theorem w_c10 : (Jvm.Cond.code ({ cls := "java/util/Arrays", name := "copyOf", desc := "([BI)[B" } : Jvm.MethodName) jdk_65_method_121_code (3 : Nat) (Option.some (Jvm.ClassFile.FieldType.array Jvm.ClassFile.FieldType.byte))).before args0 about1 = true := code_word (m := ⟨11, 1⟩) (meth := k11m1) (c := k11c1) (by decide +kernel) rfl rfl rfl (by decide +kernel)
set_option maxRecDepth 65536 in
theorem w_c11 : (Jvm.Cond.code ({ cls := "java/lang/Math", name := "min", desc := "(II)I" } : Jvm.MethodName) jdk_29_method_69_code (2 : Nat) (Option.some Jvm.ClassFile.FieldType.int)).before args0 about1 = true := code_word (m := ⟨12, 1⟩) (meth := k12m1) (c := k12c1) (by decide +kernel) rfl rfl rfl (by decide +kernel)
set_option maxRecDepth 65536 in
theorem w_c12 : (Jvm.Cond.code ({ cls := "com/example/driftstone/driftstone/core/RecordOutputWritePinLaw", name := "at", desc := "([BII[BIII)Z" } : Jvm.MethodName) method_3_code (7 : Nat) (Option.some Jvm.ClassFile.FieldType.boolean)).before args0 about1 = true := code_word (m := ⟨1, 2⟩) (meth := k1m2) (c := k1c2) (by decide +kernel) rfl rfl rfl (by decide +kernel)
set_option maxRecDepth 65536 in
theorem w_c13 : (Jvm.Cond.code ({ cls := "com/example/driftstone/driftstone/core/RecordOutputWritePinLaw", name := "expected", desc := "(II[BIII)I" } : Jvm.MethodName) method_2_code (6 : Nat) (Option.some Jvm.ClassFile.FieldType.int)).before args0 about1 = true := code_word (m := ⟨1, 1⟩) (meth := k1m1) (c := k1c1) (by decide +kernel) rfl rfl rfl (by decide +kernel)
set_option maxRecDepth 65536 in
theorem w_c14 : (Jvm.Cond.code ({ cls := "java/lang/Math", name := "min", desc := "(JJ)J" } : Jvm.MethodName) jdk_29_method_70_code (4 : Nat) (Option.some Jvm.ClassFile.FieldType.long)).before args0 about1 = true := code_word (m := ⟨12, 2⟩) (meth := k12m2) (c := k12c2) (by decide +kernel) rfl rfl rfl (by decide +kernel)
def codes1 : List Jvm.Cond := [Jvm.Cond.code x code maxLocals ret, Jvm.Cond.code ({ cls := "com/example/driftstone/driftstone/core/RecordOutput", name := "<init>", desc := "()V" } : Jvm.MethodName) prog_6_method_1_code (1 : Nat) (Option.none : Option Jvm.ClassFile.FieldType), Jvm.Cond.code ({ cls := "java/io/ByteArrayOutputStream", name := "<init>", desc := "()V" } : Jvm.MethodName) jdk_2005_method_1_code (1 : Nat) (Option.none : Option Jvm.ClassFile.FieldType), Jvm.Cond.code ({ cls := "java/io/ByteArrayOutputStream", name := "<init>", desc := "(I)V" } : Jvm.MethodName) jdk_2005_method_2_code (2 : Nat) (Option.none : Option Jvm.ClassFile.FieldType), Jvm.Cond.code ({ cls := "java/io/OutputStream", name := "<init>", desc := "()V" } : Jvm.MethodName) jdk_2038_method_1_code (1 : Nat) (Option.none : Option Jvm.ClassFile.FieldType), Jvm.Cond.code ({ cls := "java/lang/Object", name := "<init>", desc := "()V" } : Jvm.MethodName) object_method_1_code (1 : Nat) (Option.none : Option Jvm.ClassFile.FieldType), Jvm.Cond.code ({ cls := "java/util/Objects", name := "checkFromIndexSize", desc := "(III)I" } : Jvm.MethodName) jdk_31_method_19_code (3 : Nat) (Option.some Jvm.ClassFile.FieldType.int), Jvm.Cond.code ({ cls := "jdk/internal/util/Preconditions", name := "checkFromIndexSize", desc := "(IIILjava/util/function/BiFunction;)I" } : Jvm.MethodName) jdk_41_method_13_code (4 : Nat) (Option.some Jvm.ClassFile.FieldType.int), Jvm.Cond.code ({ cls := "java/io/ByteArrayOutputStream", name := "ensureCapacity", desc := "(I)V" } : Jvm.MethodName) jdk_2005_method_3_code (4 : Nat) (Option.none : Option Jvm.ClassFile.FieldType), Jvm.Cond.code ({ cls := "com/example/driftstone/driftstone/core/RecordOutput", name := "write", desc := "(I)V" } : Jvm.MethodName) prog_6_method_2_code (2 : Nat) (Option.none : Option Jvm.ClassFile.FieldType), Jvm.Cond.code ({ cls := "java/util/Arrays", name := "copyOf", desc := "([BI)[B" } : Jvm.MethodName) jdk_65_method_121_code (3 : Nat) (Option.some (Jvm.ClassFile.FieldType.array Jvm.ClassFile.FieldType.byte)), Jvm.Cond.code ({ cls := "java/lang/Math", name := "min", desc := "(II)I" } : Jvm.MethodName) jdk_29_method_69_code (2 : Nat) (Option.some Jvm.ClassFile.FieldType.int), Jvm.Cond.code ({ cls := "com/example/driftstone/driftstone/core/RecordOutputWritePinLaw", name := "at", desc := "([BII[BIII)Z" } : Jvm.MethodName) method_3_code (7 : Nat) (Option.some Jvm.ClassFile.FieldType.boolean), Jvm.Cond.code ({ cls := "com/example/driftstone/driftstone/core/RecordOutputWritePinLaw", name := "expected", desc := "(II[BIII)I" } : Jvm.MethodName) method_2_code (6 : Nat) (Option.some Jvm.ClassFile.FieldType.int), Jvm.Cond.code ({ cls := "java/lang/Math", name := "min", desc := "(JJ)J" } : Jvm.MethodName) jdk_29_method_70_code (4 : Nat) (Option.some Jvm.ClassFile.FieldType.long)]
set_option maxRecDepth 65536 in
theorem codes_eq : words1.filter isCode = codes1 := rfl
theorem w_codes : ∀ c ∈ words1.filter isCode, c.before args0 about1 = true := by
  rw [codes_eq]
  intro c hc
  simp only [codes1, List.mem_cons, List.not_mem_nil, or_false] at hc
  rcases hc with rfl | rfl | rfl | rfl | rfl | rfl | rfl | rfl | rfl | rfl | rfl | rfl | rfl | rfl | rfl
  · exact w_c0
  · exact w_c1
  · exact w_c2
  · exact w_c3
  · exact w_c4
  · exact w_c5
  · exact w_c6
  · exact w_c7
  · exact w_c8
  · exact w_c9
  · exact w_c10
  · exact w_c11
  · exact w_c12
  · exact w_c13
  · exact w_c14
set_option maxRecDepth 65536 in
theorem w_t1 : (words1.take 24).all (fun c => isCode c || c.before args0 about1) = true := by decide +kernel
set_option maxRecDepth 65536 in
theorem w_t2 : ((words1.drop 24).take 24).all (fun c => isCode c || c.before args0 about1) = true := by decide +kernel
set_option maxRecDepth 65536 in
theorem w_t3 : (((words1.drop 24).drop 24).take 24).all (fun c => isCode c || c.before args0 about1) = true := by decide +kernel
set_option maxRecDepth 65536 in
theorem w_t4 : ((((words1.drop 24).drop 24).drop 24).take 24).all (fun c => isCode c || c.before args0 about1) = true := by decide +kernel
set_option maxRecDepth 65536 in
theorem w_t5 : ((((words1.drop 24).drop 24).drop 24).drop 24).all (fun c => isCode c || c.before args0 about1) = true := by decide +kernel
theorem w_tables : (allAtoms (Jvm.Cond.code x code maxLocals ret :: tables_1)).before args0 about1 = true := by
  rw [allAtoms_all]
  show words1.all (fun c => c.before args0 about1) = true
  refine all_split ?_ w_codes
  rw [← List.take_append_drop 24 words1, List.all_append, w_t1, ← List.take_append_drop 24 (words1.drop 24), List.all_append, w_t2, ← List.take_append_drop 24 ((words1.drop 24).drop 24), List.all_append, w_t3, ← List.take_append_drop 24 (((words1.drop 24).drop 24).drop 24), List.all_append, w_t4, w_t5]
  rfl
set_option maxRecDepth 65536 in
theorem w_case : (Jvm.Cond.and given_1 narrow_1).before args0 about1 = true := by decide +kernel
theorem w_applies : (headSpec (Jvm.Cond.code x code maxLocals ret :: tables_1) room_1).applies x e0.platform about1 = true :=
  (Spec.applies_iff w_frames).mpr ⟨w_running, w_runnable, w_alone, w_named, w_hears, w_ripe, w_room, w_tables⟩
theorem atStart : AtStart classFile x code maxLocals ret World_1 tables_1 room_1 Calls_1 rest_1 Pre_1 launch0 p0 e0 about1 theMethod args0 below0 :=
  ⟨lists_1, trivial, launch0.admits_env _ _ _, launch0.least_env, fairChoices_fair.cas, fairChoices_fair.clock, w_frames, w_args, w_heap, w_applies, trivial, trivial, w_case⟩
end start1
theorem witness_1 : WitnessClaimed_1 := ⟨start1.p0, start1.e0, start1.about1, start1.theMethod, start1.args0, start1.below0, start1.atStart⟩
end Jvm.Pilot.@@N@@
