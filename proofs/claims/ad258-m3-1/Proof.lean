import JvmDerived
import JvmDerived.Pilot.@@N@@Statement
import JvmDerived.Pilot.@@N@@Code
set_option linter.unusedVariables false
set_option linter.unusedSimpArgs false
namespace Jvm.RoadKit
open Sem ClassFile Op Lib Jvm.Stand Jvm.Free Jvm.LawKit
section New
variable {p : Program} {l : Launch} {e : Env} {R : Room} {s : State} {m : MethodId} {args : Array Value} {below : List Frame} {meth : Method} {c : Code} {T : State} {locs : List Loc} {cells slots : Nat}
theorem retI (X : Stand p l e R s m args below meth c T locs cells slots) (hx : p.tables.exec = Jvm.exec) {pc : Nat} {Ls : Array Slot} {z : Int32} {rest : List Value} (hret : meth.sig.returnType = some .int) (hd : decode c.code pc = .ok (.ireturn, 1)) {fs : List Frame}
    (hl : ∀ (f : JFrame) (acts : List Action), f.method = m → f.locked = none → f.entered = [] → (doReturn e (T.setTop f) acts (some (.int z))).1 = T.setFrames fs) : Steps p.tables e below (T.setTop (mkF m pc Ls (.int z :: rest))) (T.setFrames fs) := by
  have hm' : T.vm.method? m = some meth := X.method'
  have hn : narrow .int (.int z) = .int z := rfl
  show Steps p.tables e below (T.setTop { method := m, pc := pc, locals := Ls, stack := _ :: rest, locked := none }) _
  jvm_step X.here [X.here.top, hx, hd, hm', hret, hn]
  first | (intro acts; rw [hl _ acts rfl rfl rfl]) | rw [hl _ _ rfl rfl rfl]
  exact Steps.refl _
end New
end Jvm.RoadKit
namespace Jvm.Pilot.@@N@@
open Jvm Jvm.ClassFile Sem Op Lib Jvm.Free Jvm.Stand Jvm.LawKit Jvm.RoadKit Bundle Jvm.Pilot.@@N@@.Jvm.D
theorem own_nar0 : nar .boolean (0 : Int32) = (0 : Int32) := rfl
theorem own_nar1 : nar .boolean (1 : Int32) = (1 : Int32) := rfl
abbrev St := List Int32 × List Int32 × List Int32 × List Int32 × List Int32 × Int32 × Int32
def gI (xs : List Int32) (j : Int32) : Int32 := xs.getD j.toNatClampNeg 0
def sI (xs : List Int32) (j v : Int32) : List Int32 := xs.set j.toNatClampNeg v
def inR (xs : List Int32) (j : Int32) : Bool := decide (¬ j < 0) && decide (j.toNatClampNeg < xs.length)
def fillG : Nat → Int32 → List Int32 → Int32 → List Int32
  | 0, _, xs, _ => xs
  | k + 1, i, xs, v => fillG k (i + 1) (sI xs i v) v
def maxF (a b : Int32) : Int32 := if a < b then b else a
def capF (ic : List Int32) (l : Int32) : Int32 := maxF ((2 : Int32) * Int32.ofNat ic.length) (l + (1 : Int32))
def cpyF (ic : List Int32) (n : Int32) : List Int32 := ic ++ List.replicate (n.toNatClampNeg - ic.length) 0
def growF (ic : List Int32) (l : Int32) : List Int32 := fillG ((capF ic l).toNatClampNeg - ic.length) (Int32.ofNat ic.length) (cpyF ic (capF ic l)) (-1)
def grI (ic : List Int32) (l : Int32) : List Int32 := if l < Int32.ofNat ic.length then ic else growF ic l
def growOk (ic : List Int32) (l : Int32) : Bool := decide (l < Int32.ofNat ic.length) || (decide (Int32.ofNat ic.length < capF ic l) && decide ((capF ic l).toNatClampNeg ≤ 8))
def pushS : St → Int32 → St
  | (ic, cl, cv, hc, fc, cnt, dep), l => (sI ic l cnt, sI cl cnt l, sI cv cnt 1, sI hc cnt (gI ic l), fc, cnt + 1, dep)
def pushOk : St → Int32 → Bool
  | (ic, cl, cv, hc, fc, cnt, dep), l => decide (¬ cnt = Int32.ofNat cl.length) && (inR cl cnt && (inR cv cnt && (inR hc cnt && inR ic l)))
def nextS : St → Int32 → St
  | (ic, cl, cv, hc, fc, cnt, dep), l => if gI (grI ic l) l < gI fc dep then pushS (grI ic l, cl, cv, hc, fc, cnt, dep) l else (grI ic l, cl, sI cv (gI (grI ic l) l) (gI cv (gI (grI ic l) l) + 1), hc, fc, cnt, dep)
def nextR : St → Int32 → Int32
  | (ic, cl, cv, hc, fc, cnt, dep), l => if gI (grI ic l) l < gI fc dep then 1 else gI (sI cv (gI (grI ic l) l) (gI cv (gI (grI ic l) l) + 1)) (gI (grI ic l) l)
def nextOk : St → Int32 → Bool
  | (ic, cl, cv, hc, fc, cnt, dep), l => growOk ic l && (inR (grI ic l) l && (inR fc dep && (if gI (grI ic l) l < gI fc dep then pushOk (grI ic l, cl, cv, hc, fc, cnt, dep) l else inR cv (gI (grI ic l) l))))
def openS : St → St
  | (ic, cl, cv, hc, fc, cnt, dep) => (ic, cl, cv, hc, sI fc (dep + 1) cnt, cnt, dep + 1)
def openOk : St → Bool
  | (ic, cl, cv, hc, fc, cnt, dep) => decide (¬ dep + 1 = Int32.ofNat fc.length) && inR fc (dep + 1)
def clG : Nat → List Int32 → List Int32 → List Int32 → Int32 → Int32 → List Int32 × Int32
  | 0, ic, _, _, _, cnt => (ic, cnt)
  | k + 1, ic, cl, hc, f, cnt => if f < cnt then clG k (sI ic (gI cl (cnt - 1)) (gI hc (cnt - 1))) cl hc f (cnt - 1) else (ic, cnt)
def clOk : Nat → List Int32 → List Int32 → List Int32 → Int32 → Int32 → Bool
  | 0, _, _, _, f, cnt => decide (¬ f < cnt)
  | k + 1, ic, cl, hc, f, cnt => if f < cnt then inR cl (cnt - 1) && (inR hc (cnt - 1) && (inR ic (gI cl (cnt - 1)) && clOk k (sI ic (gI cl (cnt - 1)) (gI hc (cnt - 1))) cl hc f (cnt - 1))) else true
def closeS : St → St
  | (ic, cl, cv, hc, fc, cnt, dep) => ((clG 3 ic cl hc (gI fc dep) cnt).1, cl, cv, hc, fc, (clG 3 ic cl hc (gI fc dep) cnt).2, dep - 1)
def closeOk : St → Bool
  | (ic, cl, cv, hc, fc, cnt, dep) => inR fc dep && clOk 3 ic cl hc (gI fc dep) cnt
def z16 : List Int32 := List.replicate 16 0
def initS : St := ([], z16, z16, z16, z16, 0, 0)
def cndS (c : Int32) (σ : St) (l : Int32) : St := if c = 0 then σ else nextS σ l
def eqF (a b : Int32) : Int32 := if a = b then 1 else 0
def cndR (c ok : Int32) (σ : St) (l w : Int32) : Int32 := if c = 0 then ok else ok &&& eqF (nextR σ l) w
def cndOk (c : Int32) (σ : St) (l : Int32) : Bool := decide (c = 0) || nextOk σ l
def w2F (c1 l1 l2 : Int32) : Int32 := if c1 = 0 then 1 else if l2 = l1 then 2 else 1
def w3F (l3 l0 : Int32) : Int32 := if l3 = l0 then 2 else 1
def w5F (l5 l0 l3 : Int32) : Int32 := ((1 : Int32) + eqF l5 l0) + eqF l5 l3
def sg1 (l0 : Int32) : St := openS (nextS initS l0)
def sg2 (l0 c1 l1 c2 l2 : Int32) : St := cndS c2 (cndS c1 (sg1 l0) l1) l2
def sg3 (l0 c1 l1 c2 l2 l3 : Int32) : St := openS (nextS (closeS (sg2 l0 c1 l1 c2 l2)) l3)
def sg4 (l0 c1 l1 c2 l2 l3 c4 l4 : Int32) : St := closeS (cndS c4 (sg3 l0 c1 l1 c2 l2 l3) l4)
def ok1 (l0 c1 l1 c2 l2 : Int32) : Int32 := cndR c2 (cndR c1 (eqF (nextR initS l0) 1) (sg1 l0) l1 1) (cndS c1 (sg1 l0) l1) l2 (w2F c1 l1 l2)
def ok2 (l0 c1 l1 c2 l2 l3 : Int32) : Int32 := ok1 l0 c1 l1 c2 l2 &&& eqF (nextR (closeS (sg2 l0 c1 l1 c2 l2)) l3) (w3F l3 l0)
def ok3 (l0 c1 l1 c2 l2 l3 c4 l4 : Int32) : Int32 := cndR c4 (ok2 l0 c1 l1 c2 l2 l3) (sg3 l0 c1 l1 c2 l2 l3) l4 1
def ok4 (l0 c1 l1 c2 l2 l3 c4 l4 l5 : Int32) : Int32 := ok3 l0 c1 l1 c2 l2 l3 c4 l4 &&& eqF (nextR (sg4 l0 c1 l1 c2 l2 l3 c4 l4) l5) (w5F l5 l0 l3)
def runOk (l0 c1 l1 c2 l2 l3 c4 l4 l5 : Int32) : Bool := nextOk initS l0 && (openOk (nextS initS l0) && (cndOk c1 (sg1 l0) l1 && (cndOk c2 (cndS c1 (sg1 l0) l1) l2 && (closeOk (sg2 l0 c1 l1 c2 l2) && (nextOk (closeS (sg2 l0 c1 l1 c2 l2)) l3 && (openOk (nextS (closeS (sg2 l0 c1 l1 c2 l2)) l3) && (cndOk c4 (sg3 l0 c1 l1 c2 l2 l3) l4 && (closeOk (cndS c4 (sg3 l0 c1 l1 c2 l2 l3) l4) && nextOk (sg4 l0 c1 l1 c2 l2 l3 c4 l4) l5))))))))
def allOk (l0 c1 l1 c2 l2 l3 c4 l4 l5 : Int32) : Bool := runOk l0 c1 l1 c2 l2 l3 c4 l4 l5 && decide (ok4 l0 c1 l1 c2 l2 l3 c4 l4 l5 = 1)
def Ls : List Int32 := [0, 1, 2, 3]
def Cs : List Int32 := [0, 1]
def vI (xs : List Int32) : List Value := xs.map Value.int
def IA (Z : State) (h : Heap) (b : Addr) (xs : List Int32) : Prop := xs.length ≤ 1000 ∧ ∃ k, Arv Z h b k .int (Int32.ofNat xs.length) (vI xs) (.int 0)
section IAs
variable {Z : State} {h h' : Heap} {a b : Addr} {xs : List Int32} {ws : List Addr} {sl : Nat} {v : Value}
theorem IA.ext (F : IA Z h b xs) (E : Ext h h') : IA Z h' b xs := ⟨F.1, F.2.imp fun _ A => A.ext E⟩
theorem IA.other (F : IA Z h b xs) (W : Wr h h' a sl v) (q : b ≠ a) : IA Z h' b xs := ⟨F.1, F.2.imp fun _ A => A.other W q⟩
theorem IA.keep (F : IA Z h b xs) (K : Keep h h' ws) (q : b ∉ ws) : IA Z h' b xs := ⟨F.1, F.2.imp fun _ A => A.keep K q⟩
theorem IA.lt (F : IA Z h b xs) : b < h.size := by obtain ⟨-, k, A⟩ := F; exact A.lt
theorem own_len {n : Nat} (q : n ≤ 1000) : (Int32.ofNat n).toInt = n := Int32.toInt_ofNat_of_lt (by omega)
theorem own_clamp {n : Nat} (q : n ≤ 1000) : (Int32.ofNat n).toNatClampNeg = n := by simp only [Int32.toNatClampNeg, own_len q]; rfl
theorem own_nneg {n : Nat} (q : n ≤ 1000) : ¬ Int32.ofNat n < 0 := by rw [Int32.lt_iff_toInt_lt, own_len q]; show ¬ (n : Int) < 0; omega
theorem IA.ln (F : IA Z h b xs) : ∃ cl : Cell, Arr Z h b cl .int ∧ cl.slots.size.toInt32 = Int32.ofNat xs.length := by
  obtain ⟨-, k, c, A, -, S, N, -⟩ := F; exact ⟨c, A, len_of S N⟩
theorem IA.neE {C : String} {a0 : Array Value} {k : Nat} (F : IA Z h b xs) (G : Exa Z h a C) (wi : (Cond.instantiable C k).before a0 Z = true) : a ≠ b := by
  obtain ⟨-, k, c, A, -⟩ := F; exact ne_arr G wi A
theorem inR_iff {xs : List Int32} {j : Int32} : inR xs j = true ↔ ¬ j < 0 ∧ j.toNatClampNeg < xs.length := by simp [inR]
theorem IA.rd (F : IA Z h b xs) {j : Int32} (q : inR xs j = true) : ∃ cl : Cell, Arr Z h b cl .int ∧ ¬ (j < 0 ∨ cl.slots.size ≤ j.toNatClampNeg) ∧ cl.slots[j.toNatClampNeg]? = some (.int (gI xs j)) ∧ ∀ (h' : Heap) (v : Int32), Wr h h' b j.toNatClampNeg (.int v) → IA Z h' b (sI xs j v) := by
  obtain ⟨l, k, c, A, q1, S, N, H, G⟩ := F
  have q' := inR_iff.mp q
  have hin : ¬ (j < 0 ∨ c.slots.size ≤ j.toNatClampNeg) := fun z => z.elim q'.1 (fun z => by rw [S, own_clamp l] at z; omega)
  refine ⟨c, A, hin, H.at hin ?_, fun h' v W => ⟨?_, k, ?_⟩⟩
  · simp only [vI, gI, List.getD_eq_getElem?_getD, List.getElem?_map, List.getElem?_eq_getElem q'.2]; rfl
  · show (xs.set _ _).length ≤ _; rw [List.length_set]; exact l
  · have w := Arv.set A q1 S N H G rfl W _ rfl (by rw [vI, List.length_map]; exact q'.2)
    show Arv Z h' b k .int (Int32.ofNat (xs.set j.toNatClampNeg v).length) ((xs.set j.toNatClampNeg v).map Value.int) (.int 0)
    rw [List.length_set, List.map_set]; exact w
theorem own_vrep (n i : Nat) : (vI (List.replicate n 0)).getD i (.int 0) = .int 0 := by
  simp only [vI, List.map_replicate, List.getD_eq_getElem?_getD, List.getElem?_replicate]; split <;> rfl
theorem IA.new {k : ClassId} {z : Int32} (n : Nat) (A : Arr Z h b (newA k .int z) .int) (hn : n ≤ 1000) (hz : z = Int32.ofNat n) : IA Z h b (List.replicate n 0) := by
  subst hz
  refine ⟨by rw [List.length_replicate]; exact hn, k, ?_⟩
  rw [List.length_replicate]
  exact (Arv.new A (own_nneg hn)).pad fun i => (own_vrep n i).trans rfl
theorem own_range {α : Type} (xs : List α) (d : α) : (List.range xs.length).map (fun i => xs.getD (0 + i) d) = xs := by
  apply List.ext_getElem?
  intro i
  rw [List.getElem?_map]
  by_cases q : i < xs.length
  · rw [List.getElem?_range q]; simp [List.getD_eq_getElem?_getD, q]
  · rw [List.getElem?_eq_none (by simpa using q), List.getElem?_eq_none (Nat.le_of_not_lt q)]; rfl
end IAs
/-- the object as a whole: its class, fields and arrays -/
def SP (Z : State) (n0 : Nat) (h : Heap) (a : Addr) (ic cl cv hc fc : List Int32) (cnt dep : Int32) : Prop := ∃ bi bl bv bh bf : Addr,
  Exa Z h a "com/example/orsay/orsay/SiblingPositions" ∧ Fld Z h a "com/example/orsay/orsay/SiblingPositions" "innermostCount" "[I" (.ref bi) ∧ Fld Z h a "com/example/orsay/orsay/SiblingPositions" "countLabel" "[I" (.ref bl) ∧ Fld Z h a "com/example/orsay/orsay/SiblingPositions" "countValue" "[I" (.ref bv) ∧ Fld Z h a "com/example/orsay/orsay/SiblingPositions" "hiddenCount" "[I" (.ref bh) ∧ Fld Z h a "com/example/orsay/orsay/SiblingPositions" "firstCount" "[I" (.ref bf) ∧ Fld Z h a "com/example/orsay/orsay/SiblingPositions" "counts" "I" (.int cnt) ∧ Fld Z h a "com/example/orsay/orsay/SiblingPositions" "depth" "I" (.int dep) ∧
  IA Z h bi ic ∧ IA Z h bl cl ∧ IA Z h bv cv ∧ IA Z h bh hc ∧ IA Z h bf fc ∧
  (bi ≠ bl ∧ bi ≠ bv ∧ bi ≠ bh ∧ bi ≠ bf ∧ bl ≠ bv ∧ bl ≠ bh ∧ bl ≠ bf ∧ bv ≠ bh ∧ bv ≠ bf ∧ bh ≠ bf) ∧ (n0 ≤ a ∧ n0 ≤ bi ∧ n0 ≤ bl ∧ n0 ≤ bv ∧ n0 ≤ bh ∧ n0 ≤ bf)
def SPs (Z : State) (n0 : Nat) (h : Heap) (a : Addr) (σ : St) : Prop := SP Z n0 h a σ.1 σ.2.1 σ.2.2.1 σ.2.2.2.1 σ.2.2.2.2.1 σ.2.2.2.2.2.1 σ.2.2.2.2.2.2
theorem SPs.exa {Z : State} {n0 : Nat} {h : Heap} {a : Addr} {σ : St} (S : SPs Z n0 h a σ) : Exa Z h a "com/example/orsay/orsay/SiblingPositions" := by obtain ⟨_, _, _, _, _, E, -⟩ := S; exact E
theorem SPs.size {Z : State} {n0 : Nat} {h : Heap} {a : Addr} {σ : St} (S : SPs Z n0 h a σ) : n0 ≤ h.size := by
  obtain ⟨_, _, _, _, _, E, -, -, -, -, -, -, -, -, -, -, -, -, -, g, -⟩ := S; exact Nat.le_trans g (Nat.le_of_lt E.lt)

def minF (a b : Int32) : Int32 := if b < a then b else a
theorem own_back {x : Int32} (h : ¬ x < 0) : x = Int32.ofNat x.toNatClampNeg := (back32 h).1.symm
theorem inR_sI {xs : List Int32} {j k v : Int32} (h : inR xs k = true) : inR (sI xs j v) k = true := by
  rw [inR_iff] at h ⊢; show _ ∧ _ < (xs.set _ _).length; rw [List.length_set]; exact h
theorem cpy_len {xs : List Int32} {n : Int32} (h : xs.length ≤ n.toNatClampNeg) : (cpyF xs n).length = n.toNatClampNeg := by
  show (xs ++ List.replicate _ _).length = _; rw [List.length_append, List.length_replicate]; omega
theorem own_copy {Z : State} {h : Heap} {b : Addr} {k : ClassId} {xs : List Int32} {n : Int32} (l : xs.length ≤ 1000) (hc : n.toNatClampNeg ≤ 8) (hle : xs.length ≤ n.toNatClampNeg)
    (B : Arv Z h b k .int (Int32.ofNat (List.replicate n.toNatClampNeg (0 : Int32)).length) ((vI (List.replicate n.toNatClampNeg 0)).take (0 : Int32).toNatClampNeg ++ vI xs ++ (vI (List.replicate n.toNatClampNeg 0)).drop ((0 : Int32).toNatClampNeg + (Int32.ofNat xs.length).toNatClampNeg)) (.int 0)) : IA Z h b (cpyF xs n) := by
  refine ⟨by rw [cpy_len hle]; omega, k, ?_⟩
  rw [cpy_len hle]
  rw [List.length_replicate, own_clamp l, show (0 : Int32).toNatClampNeg = 0 from rfl, List.take_zero, List.nil_append, Nat.zero_add] at B
  rw [show vI (cpyF xs n) = vI xs ++ (vI (List.replicate n.toNatClampNeg 0)).drop xs.length from by
    show (xs ++ List.replicate _ _).map _ = _
    rw [List.map_append]; show vI xs ++ _ = _; congr 1
    simp only [vI, List.map_replicate, List.drop_replicate]]
  exact B
theorem own_lt {xs : List Int32} {n : Int32} (l : xs.length ≤ 1000) (h : Int32.ofNat xs.length < n) : ¬ n < 0 ∧ xs.length ≤ n.toNatClampNeg := by
  rw [Int32.lt_iff_toInt_lt, own_len l] at h
  refine ⟨by rw [Int32.lt_iff_toInt_lt]; show ¬ n.toInt < 0; omega, ?_⟩
  simp only [Int32.toNatClampNeg]; omega
theorem own_min {xs : List Int32} {n : Int32} (h : Int32.ofNat xs.length < n) : minF (Int32.ofNat xs.length) n = Int32.ofNat xs.length := if_neg (fun q => by rw [Int32.lt_iff_toInt_lt] at h q; omega)
theorem own_us {xs : List Int32} (l : xs.length ≤ 1000) : vI xs = (List.range (Int32.ofNat xs.length).toNatClampNeg).map fun i => (vI xs).getD ((0 : Int32).toNatClampNeg + i) (.int 0) := by
  rw [own_clamp l, show (0 : Int32).toNatClampNeg = 0 from rfl]
  have q := own_range (vI xs) (.int 0)
  rw [show (vI xs).length = xs.length from List.length_map ..] at q
  exact q.symm
theorem d_jdk_29_method_65_0 : decode jdk_29_method_65_code 0 = .ok (.iload_n 0, 1) := by decide +kernel
theorem d_jdk_29_method_65_1 : decode jdk_29_method_65_code 1 = .ok (.iload_n 1, 1) := by decide +kernel
theorem d_jdk_29_method_65_2 : decode jdk_29_method_65_code 2 = .ok (.if_icmp .lt 7, 3) := by decide +kernel
theorem d_jdk_29_method_65_5 : decode jdk_29_method_65_code 5 = .ok (.iload_n 0, 1) := by decide +kernel
theorem d_jdk_29_method_65_6 : decode jdk_29_method_65_code 6 = .ok (.goto 4, 3) := by decide +kernel
theorem d_jdk_29_method_65_9 : decode jdk_29_method_65_code 9 = .ok (.iload_n 1, 1) := by decide +kernel
theorem d_jdk_29_method_65_10 : decode jdk_29_method_65_code 10 = .ok (.ireturn, 1) := by decide +kernel
theorem ef_max (m : MethodId) (xa : Int32) (xb : Int32) : entryFrame m #[(.int xa), (.int xb)] 2 = mkF m 0 #[.val (.int xa), .val (.int xb)] [] := by first | (simp [entryFrame, mkF, argsToLocals, Value.category]; done) | rfl
def Q_max (Z : State) (xa : Int32) (xb : Int32) (h0 : Heap) (n0 : Nat) (v : Option Value) (h : Heap) (L : List Loc) : Prop := v = some (.int (maxF xa xb)) ∧ Fr n0 L ∧ h = h0
set_option maxRecDepth 65536 in
set_option maxHeartbeats 40000000 in
theorem rm_max (l : Launch) (Z : State) (a0 : Array Value) (hw : ∀ d ∈ tables_1, d.before a0 Z = true) (ws : List Jvm.Cond) (xa : Int32) (xb : Int32) (h0 : Heap) (n0 : Nat) (Z0 : n0 ≤ h0.size) :
    MetFree l (⟨"java/lang/Math", "max", "(II)I"⟩ : MethodName) (head1 (Jvm.Cond.code (⟨"java/lang/Math", "max", "(II)I"⟩ : MethodName) jdk_29_method_65_code 2 (some .int) :: ws) ({ frames := 0, cells := 0, slots := 0, locals := 0 } : Room)) (fun a U => a = #[(.int xa), (.int xb)] ∧ Z.Warmed39 U.vm ∧ U.heap = h0) (fun _ _ _ _ _ => True) (fun _ U o U' => ∃ v L, o = .returned v ∧ Q_max Z xa xb h0 n0 v U'.heap L ∧ FrameEnd U o U' L ({ frames := 0, cells := 0, slots := 0, locals := 0 } : Room).cells ({ frames := 0, cells := 0, slots := 0, locals := 0 } : Room).slots) := by
  refine MetFree.of_bodySF (Jvm.Free.JP.mathPlain rfl (by decide +kernel)) hisR ?_
  intro p e s m args below meth c s₁ Bd hml0 hP hK
  obtain ⟨rfl, hZ, hh⟩ := hP
  have hx := Bd.exec
  have hby := Bd.bytes
  have hml : c.maxLocals = 2 := hml0
  have hown : s.vm.findClass "java/lang/Math" = some m.cls := findClass_of_methodNamed Bd.named
  have X0 : Stand p l e ({ frames := 0, cells := 0, slots := 0, locals := 0 } : Room) s m #[(.int xa), (.int xb)] below meth c s₁ [] 0 0 := Stand.of_body Bd
  have e0 : s₁.heap = h0 := by rw [← hh, Bd.state]; rfl
  have N0 := Fr.nil n0
  have pre0 : ∀ t, Steps p.tables e below (s₁.setTop (mkF m 0 #[.val (.int xa), .val (.int xb)] [])) t → Steps p.tables e below (s₁.setTop (entryFrame m #[(.int xa), (.int xb)] 2)) t := fun t k => castTop (ef_max m xa xb) k
  obtain ⟨fs, hr, hrun, hended, hW, hsame⟩ := X0.leave (v := some (.int (maxF xa xb))) (fun h => by rw [Bd.returns] at h; cases h)
  refine ⟨_, _, pre0 _ ?_, hrun, hended, _, _, rfl, ?_, ⟨_, rfl⟩, hW, hsame.mono (by decide) (by decide)⟩
  · show Steps p.tables e below (s₁.setTop (mkF m 0 #[.val (.int xa), .val (.int xb)] [])) _
    refine XS.iloadN X0.here hx rfl (hb hby d_jdk_29_method_65_0) rfl ?_
    show Steps p.tables e below (s₁.setTop (mkF m 1 #[.val (.int xa), .val (.int xb)] [(.int xa)])) _
    refine XS.iloadN X0.here hx rfl (hb hby d_jdk_29_method_65_1) rfl ?_
    show Steps p.tables e below (s₁.setTop (mkF m 2 #[.val (.int xa), .val (.int xb)] [(.int xb), (.int xa)])) _
    by_cases h2 : xa < xb
    · refine XS.icmpYes X0.here hx rfl (pc0 := 2) (pc' := 9) rfl (hb hby d_jdk_29_method_65_2) rfl (tlt h2).1 (by decide) (by decide) ?_
      show Steps p.tables e below (s₁.setTop (mkF m 9 #[.val (.int xa), .val (.int xb)] [])) _
      refine XS.iloadN X0.here hx rfl (hb hby d_jdk_29_method_65_9) rfl ?_
      show Steps p.tables e below (s₁.setTop (mkF m 10 #[.val (.int xa), .val (.int xb)] [(.int xb)])) _
      exact retI X0 hx Bd.returns (hb hby d_jdk_29_method_65_10) (by rw [show xb = (maxF xa xb) from by rw [maxF, if_pos h2]]; exact hr)
    · refine XS.icmpNo X0.here hx rfl (hb hby d_jdk_29_method_65_2) rfl (flt h2).1 ?_
      show Steps p.tables e below (s₁.setTop (mkF m 5 #[.val (.int xa), .val (.int xb)] [])) _
      refine XS.iloadN X0.here hx rfl (hb hby d_jdk_29_method_65_5) rfl ?_
      show Steps p.tables e below (s₁.setTop (mkF m 6 #[.val (.int xa), .val (.int xb)] [(.int xa)])) _
      refine XS.goto X0.here hx rfl (pc0 := 6) (pc' := 10) rfl (hb hby d_jdk_29_method_65_6) (by decide) (by decide) ?_
      show Steps p.tables e below (s₁.setTop (mkF m 10 #[.val (.int xa), .val (.int xb)] [(.int xa)])) _
      exact retI X0 hx Bd.returns (hb hby d_jdk_29_method_65_10) (by rw [show xa = (maxF xa xb) from by rw [maxF, if_neg h2]]; exact hr)
  · show Q_max Z xa xb h0 n0 _ s₁.heap _
    exact ⟨rfl, N0, e0⟩
theorem d_jdk_29_method_69_0 : decode jdk_29_method_69_code 0 = .ok (.iload_n 0, 1) := by decide +kernel
theorem d_jdk_29_method_69_1 : decode jdk_29_method_69_code 1 = .ok (.iload_n 1, 1) := by decide +kernel
theorem d_jdk_29_method_69_2 : decode jdk_29_method_69_code 2 = .ok (.if_icmp .gt 7, 3) := by decide +kernel
theorem d_jdk_29_method_69_5 : decode jdk_29_method_69_code 5 = .ok (.iload_n 0, 1) := by decide +kernel
theorem d_jdk_29_method_69_6 : decode jdk_29_method_69_code 6 = .ok (.goto 4, 3) := by decide +kernel
theorem d_jdk_29_method_69_9 : decode jdk_29_method_69_code 9 = .ok (.iload_n 1, 1) := by decide +kernel
theorem d_jdk_29_method_69_10 : decode jdk_29_method_69_code 10 = .ok (.ireturn, 1) := by decide +kernel
theorem ef_min (m : MethodId) (xa : Int32) (xb : Int32) : entryFrame m #[(.int xa), (.int xb)] 2 = mkF m 0 #[.val (.int xa), .val (.int xb)] [] := by first | (simp [entryFrame, mkF, argsToLocals, Value.category]; done) | rfl
def Q_min (Z : State) (xa : Int32) (xb : Int32) (h0 : Heap) (n0 : Nat) (v : Option Value) (h : Heap) (L : List Loc) : Prop := v = some (.int (minF xa xb)) ∧ Fr n0 L ∧ h = h0
set_option maxRecDepth 65536 in
set_option maxHeartbeats 40000000 in
theorem rm_min (l : Launch) (Z : State) (a0 : Array Value) (hw : ∀ d ∈ tables_1, d.before a0 Z = true) (ws : List Jvm.Cond) (xa : Int32) (xb : Int32) (h0 : Heap) (n0 : Nat) (Z0 : n0 ≤ h0.size) :
    MetFree l (⟨"java/lang/Math", "min", "(II)I"⟩ : MethodName) (head1 (Jvm.Cond.code (⟨"java/lang/Math", "min", "(II)I"⟩ : MethodName) jdk_29_method_69_code 2 (some .int) :: ws) ({ frames := 0, cells := 0, slots := 0, locals := 0 } : Room)) (fun a U => a = #[(.int xa), (.int xb)] ∧ Z.Warmed39 U.vm ∧ U.heap = h0) (fun _ _ _ _ _ => True) (fun _ U o U' => ∃ v L, o = .returned v ∧ Q_min Z xa xb h0 n0 v U'.heap L ∧ FrameEnd U o U' L ({ frames := 0, cells := 0, slots := 0, locals := 0 } : Room).cells ({ frames := 0, cells := 0, slots := 0, locals := 0 } : Room).slots) := by
  refine MetFree.of_bodySF (Jvm.Free.JP.mathPlain rfl (by decide +kernel)) hisR ?_
  intro p e s m args below meth c s₁ Bd hml0 hP hK
  obtain ⟨rfl, hZ, hh⟩ := hP
  have hx := Bd.exec
  have hby := Bd.bytes
  have hml : c.maxLocals = 2 := hml0
  have hown : s.vm.findClass "java/lang/Math" = some m.cls := findClass_of_methodNamed Bd.named
  have X0 : Stand p l e ({ frames := 0, cells := 0, slots := 0, locals := 0 } : Room) s m #[(.int xa), (.int xb)] below meth c s₁ [] 0 0 := Stand.of_body Bd
  have e0 : s₁.heap = h0 := by rw [← hh, Bd.state]; rfl
  have N0 := Fr.nil n0
  have pre0 : ∀ t, Steps p.tables e below (s₁.setTop (mkF m 0 #[.val (.int xa), .val (.int xb)] [])) t → Steps p.tables e below (s₁.setTop (entryFrame m #[(.int xa), (.int xb)] 2)) t := fun t k => castTop (ef_min m xa xb) k
  obtain ⟨fs, hr, hrun, hended, hW, hsame⟩ := X0.leave (v := some (.int (minF xa xb))) (fun h => by rw [Bd.returns] at h; cases h)
  refine ⟨_, _, pre0 _ ?_, hrun, hended, _, _, rfl, ?_, ⟨_, rfl⟩, hW, hsame.mono (by decide) (by decide)⟩
  · show Steps p.tables e below (s₁.setTop (mkF m 0 #[.val (.int xa), .val (.int xb)] [])) _
    refine XS.iloadN X0.here hx rfl (hb hby d_jdk_29_method_69_0) rfl ?_
    show Steps p.tables e below (s₁.setTop (mkF m 1 #[.val (.int xa), .val (.int xb)] [(.int xa)])) _
    refine XS.iloadN X0.here hx rfl (hb hby d_jdk_29_method_69_1) rfl ?_
    show Steps p.tables e below (s₁.setTop (mkF m 2 #[.val (.int xa), .val (.int xb)] [(.int xb), (.int xa)])) _
    by_cases h2 : xb < xa
    · refine XS.icmpYes X0.here hx rfl (pc0 := 2) (pc' := 9) rfl (hb hby d_jdk_29_method_69_2) rfl (tlt h2).2.2.1 (by decide) (by decide) ?_
      show Steps p.tables e below (s₁.setTop (mkF m 9 #[.val (.int xa), .val (.int xb)] [])) _
      refine XS.iloadN X0.here hx rfl (hb hby d_jdk_29_method_69_9) rfl ?_
      show Steps p.tables e below (s₁.setTop (mkF m 10 #[.val (.int xa), .val (.int xb)] [(.int xb)])) _
      exact retI X0 hx Bd.returns (hb hby d_jdk_29_method_69_10) (by rw [show xb = (minF xa xb) from by rw [minF, if_pos h2]]; exact hr)
    · refine XS.icmpNo X0.here hx rfl (hb hby d_jdk_29_method_69_2) rfl (flt h2).2.2.1 ?_
      show Steps p.tables e below (s₁.setTop (mkF m 5 #[.val (.int xa), .val (.int xb)] [])) _
      refine XS.iloadN X0.here hx rfl (hb hby d_jdk_29_method_69_5) rfl ?_
      show Steps p.tables e below (s₁.setTop (mkF m 6 #[.val (.int xa), .val (.int xb)] [(.int xa)])) _
      refine XS.goto X0.here hx rfl (pc0 := 6) (pc' := 10) rfl (hb hby d_jdk_29_method_69_6) (by decide) (by decide) ?_
      show Steps p.tables e below (s₁.setTop (mkF m 10 #[.val (.int xa), .val (.int xb)] [(.int xa)])) _
      exact retI X0 hx Bd.returns (hb hby d_jdk_29_method_69_10) (by rw [show xa = (minF xa xb) from by rw [minF, if_neg h2]]; exact hr)
  · show Q_min Z xa xb h0 n0 _ s₁.heap _
    exact ⟨rfl, N0, e0⟩
theorem d_jdk_65_method_30_0 : decode jdk_65_method_30_code 0 = .ok (.iload_n 1, 1) := by decide +kernel
theorem d_jdk_65_method_30_1 : decode jdk_65_method_30_code 1 = .ok (.iload_n 2, 1) := by decide +kernel
theorem d_jdk_65_method_30_2 : decode jdk_65_method_30_code 2 = .ok (.if_icmp .le 44, 3) := by decide +kernel
theorem d_jdk_65_method_30_46 : decode jdk_65_method_30_code 46 = .ok (.iload_n 1, 1) := by decide +kernel
theorem d_jdk_65_method_30_47 : decode jdk_65_method_30_code 47 = .ok (.ifCond .ge 12, 3) := by decide +kernel
theorem d_jdk_65_method_30_59 : decode jdk_65_method_30_code 59 = .ok (.iload_n 2, 1) := by decide +kernel
theorem d_jdk_65_method_30_60 : decode jdk_65_method_30_code 60 = .ok (.iload_n 0, 1) := by decide +kernel
theorem d_jdk_65_method_30_61 : decode jdk_65_method_30_code 61 = .ok (.if_icmp .le 12, 3) := by decide +kernel
theorem d_jdk_65_method_30_73 : decode jdk_65_method_30_code 73 = .ok (.return_, 1) := by decide +kernel
theorem pn_0 : plainName "java/util/Arrays" = true := by first | (simp [plainName, overriddenIn]; done) | decide +kernel
theorem ef_rng (m : MethodId) (xl : Int32) (xf : Int32) (xt : Int32) : entryFrame m #[(.int xl), (.int xf), (.int xt)] 3 = mkF m 0 #[.val (.int xl), .val (.int xf), .val (.int xt)] [] := by first | (simp [entryFrame, mkF, argsToLocals, Value.category]; done) | rfl
def Q_rng (Z : State) (xl : Int32) (xf : Int32) (xt : Int32) (h0 : Heap) (n0 : Nat) (v : Option Value) (h : Heap) (L : List Loc) : Prop := v = none ∧ Fr n0 L ∧ h = h0
set_option maxRecDepth 65536 in
set_option maxHeartbeats 40000000 in
theorem rm_rng (l : Launch) (Z : State) (a0 : Array Value) (hw : ∀ d ∈ tables_1, d.before a0 Z = true) (ws : List Jvm.Cond) (xl : Int32) (xf : Int32) (xt : Int32) (h0 : Heap) (n0 : Nat) (Z0 : n0 ≤ h0.size) (hc2 : ¬ (xt < xf)) (hc47 : ¬ (xf < (0 : Int32))) (hc61 : ¬ (xl < xt)) :
    MetFree l (⟨"java/util/Arrays", "rangeCheck", "(III)V"⟩ : MethodName) (head1 (Jvm.Cond.code (⟨"java/util/Arrays", "rangeCheck", "(III)V"⟩ : MethodName) jdk_65_method_30_code 3 none :: ws) ({ frames := 0, cells := 0, slots := 0, locals := 0 } : Room)) (fun a U => a = #[(.int xl), (.int xf), (.int xt)] ∧ Z.Warmed39 U.vm ∧ U.heap = h0) (fun _ _ _ _ _ => True) (fun _ U o U' => ∃ v L, o = .returned v ∧ Q_rng Z xl xf xt h0 n0 v U'.heap L ∧ FrameEnd U o U' L ({ frames := 0, cells := 0, slots := 0, locals := 0 } : Room).cells ({ frames := 0, cells := 0, slots := 0, locals := 0 } : Room).slots) := by
  refine MetFree.of_bodySF (plainFor_of_name pn_0) hisR ?_
  intro p e s m args below meth c s₁ Bd hml0 hP hK
  obtain ⟨rfl, hZ, hh⟩ := hP
  have hx := Bd.exec
  have hby := Bd.bytes
  have hml : c.maxLocals = 3 := hml0
  have hown : s.vm.findClass "java/util/Arrays" = some m.cls := findClass_of_methodNamed Bd.named
  have hnm := (name_of_methodNamed Bd.named Bd.method).1
  have X0 : Stand p l e ({ frames := 0, cells := 0, slots := 0, locals := 0 } : Room) s m #[(.int xl), (.int xf), (.int xt)] below meth c s₁ [] 0 0 := Stand.of_body Bd
  have e0 : s₁.heap = h0 := by rw [← hh, Bd.state]; rfl
  have N0 := Fr.nil n0
  have pre0 : ∀ t, Steps p.tables e below (s₁.setTop (mkF m 0 #[.val (.int xl), .val (.int xf), .val (.int xt)] [])) t → Steps p.tables e below (s₁.setTop (entryFrame m #[(.int xl), (.int xf), (.int xt)] 3)) t := fun t k => castTop (ef_rng m xl xf xt) k
  obtain ⟨fs, hr, hrun, hended, hW, hsame⟩ := X0.leave (v := none) (fun _ => rfl)
  refine ⟨_, _, pre0 _ ?_, hrun, hended, _, _, rfl, ?_, ⟨_, rfl⟩, hW, hsame.mono (by decide) (by decide)⟩
  · show Steps p.tables e below (s₁.setTop (mkF m 0 #[.val (.int xl), .val (.int xf), .val (.int xt)] [])) _
    refine XS.iloadN X0.here hx rfl (hb hby d_jdk_65_method_30_0) rfl ?_
    show Steps p.tables e below (s₁.setTop (mkF m 1 #[.val (.int xl), .val (.int xf), .val (.int xt)] [(.int xf)])) _
    refine XS.iloadN X0.here hx rfl (hb hby d_jdk_65_method_30_1) rfl ?_
    show Steps p.tables e below (s₁.setTop (mkF m 2 #[.val (.int xl), .val (.int xf), .val (.int xt)] [(.int xt), (.int xf)])) _
    refine XS.icmpYes X0.here hx rfl (pc0 := 2) (pc' := 46) rfl (hb hby d_jdk_65_method_30_2) rfl (flt hc2).2.2.2 (by decide) (by decide) ?_
    show Steps p.tables e below (s₁.setTop (mkF m 46 #[.val (.int xl), .val (.int xf), .val (.int xt)] [])) _
    refine XS.iloadN X0.here hx rfl (hb hby d_jdk_65_method_30_46) rfl ?_
    show Steps p.tables e below (s₁.setTop (mkF m 47 #[.val (.int xl), .val (.int xf), .val (.int xt)] [(.int xf)])) _
    refine XS.ifYes X0.here hx rfl (pc0 := 47) (pc' := 59) rfl (hb hby d_jdk_65_method_30_47) rfl ((if0 _ _).trans (flt hc47).2.1) (by decide) (by decide) ?_
    show Steps p.tables e below (s₁.setTop (mkF m 59 #[.val (.int xl), .val (.int xf), .val (.int xt)] [])) _
    refine XS.iloadN X0.here hx rfl (hb hby d_jdk_65_method_30_59) rfl ?_
    show Steps p.tables e below (s₁.setTop (mkF m 60 #[.val (.int xl), .val (.int xf), .val (.int xt)] [(.int xt)])) _
    refine XS.iloadN X0.here hx rfl (hb hby d_jdk_65_method_30_60) rfl ?_
    show Steps p.tables e below (s₁.setTop (mkF m 61 #[.val (.int xl), .val (.int xf), .val (.int xt)] [(.int xl), (.int xt)])) _
    refine XS.icmpYes X0.here hx rfl (pc0 := 61) (pc' := 73) rfl (hb hby d_jdk_65_method_30_61) rfl (flt hc61).2.2.2 (by decide) (by decide) ?_
    show Steps p.tables e below (s₁.setTop (mkF m 73 #[.val (.int xl), .val (.int xf), .val (.int xt)] [])) _
    exact X0.returnOut hx Bd.returns (hb hby d_jdk_65_method_30_73) hr
  · show Q_rng Z xl xf xt h0 n0 _ s₁.heap _
    rw [e0]
    exact ⟨rfl, N0, rfl⟩
theorem d_jdk_65_method_123_0 : decode jdk_65_method_123_code 0 = .ok (.iload_n 1, 1) := by decide +kernel
theorem d_jdk_65_method_123_1 : decode jdk_65_method_123_code 1 = .ok (.aload_n 0, 1) := by decide +kernel
theorem d_jdk_65_method_123_2 : decode jdk_65_method_123_code 2 = .ok (.arraylength, 1) := by decide +kernel
theorem d_jdk_65_method_123_3 : decode jdk_65_method_123_code 3 = .ok (.if_icmp .ne 11, 3) := by decide +kernel
theorem d_jdk_65_method_123_14 : decode jdk_65_method_123_code 14 = .ok (.iload_n 1, 1) := by decide +kernel
theorem d_jdk_65_method_123_15 : decode jdk_65_method_123_code 15 = .ok (.newarray .int, 2) := by decide +kernel
theorem d_jdk_65_method_123_17 : decode jdk_65_method_123_code 17 = .ok (.astore_n 2, 1) := by decide +kernel
theorem d_jdk_65_method_123_18 : decode jdk_65_method_123_code 18 = .ok (.aload_n 0, 1) := by decide +kernel
theorem d_jdk_65_method_123_19 : decode jdk_65_method_123_code 19 = .ok (.iconst 0, 1) := by decide +kernel
theorem d_jdk_65_method_123_20 : decode jdk_65_method_123_code 20 = .ok (.aload_n 2, 1) := by decide +kernel
theorem d_jdk_65_method_123_21 : decode jdk_65_method_123_code 21 = .ok (.iconst 0, 1) := by decide +kernel
theorem d_jdk_65_method_123_22 : decode jdk_65_method_123_code 22 = .ok (.aload_n 0, 1) := by decide +kernel
theorem d_jdk_65_method_123_23 : decode jdk_65_method_123_code 23 = .ok (.arraylength, 1) := by decide +kernel
theorem d_jdk_65_method_123_24 : decode jdk_65_method_123_code 24 = .ok (.iload_n 1, 1) := by decide +kernel
theorem d_jdk_65_method_123_25 : decode jdk_65_method_123_code 25 = .ok (.invokestatic 304, 3) := by decide +kernel
theorem d_jdk_65_method_123_28 : decode jdk_65_method_123_code 28 = .ok (.invokestatic 150, 3) := by decide +kernel
theorem d_jdk_65_method_123_31 : decode jdk_65_method_123_code 31 = .ok (.aload_n 2, 1) := by decide +kernel
theorem d_jdk_65_method_123_32 : decode jdk_65_method_123_code 32 = .ok (.areturn, 1) := by decide +kernel
theorem pd_0 : parseMethodDescriptor "(II)I" = some ⟨[.int, .int], some .int⟩ := by decide +kernel
theorem ef_cpy (m : MethodId) (xd : Addr) (xn : Int32) : entryFrame m #[(.ref xd), (.int xn)] 3 = mkF m 0 #[.val (.ref xd), .val (.int xn), .unset] [] := by first | (simp [entryFrame, mkF, argsToLocals, Value.category]; done) | rfl
def Q_cpy (Z : State) (xd : Addr) (xn : Int32) (xs : List Int32) (h0 : Heap) (n0 : Nat) (v : Option Value) (h : Heap) (L : List Loc) : Prop := v = some (.ref h0.size) ∧ Fr n0 L ∧ Keep h0 h [] ∧ IA Z h h0.size (cpyF xs xn)
set_option maxRecDepth 65536 in
set_option maxHeartbeats 40000000 in
theorem rm_cpy (l : Launch) (Z : State) (a0 : Array Value) (hw : ∀ d ∈ tables_1, d.before a0 Z = true) (ws : List Jvm.Cond) (xd : Addr) (xn : Int32) (xs : List Int32) (h0 : Heap) (n0 : Nat) (Z0 : n0 ≤ h0.size) (Ad : IA Z h0 xd xs) (hlt : Int32.ofNat xs.length < xn) (hcap : xn.toNatClampNeg ≤ 8) :
    MetFree l (⟨"java/util/Arrays", "copyOf", "([II)[I"⟩ : MethodName) (head1 (Jvm.Cond.code (⟨"java/util/Arrays", "copyOf", "([II)[I"⟩ : MethodName) jdk_65_method_123_code 3 (some (.array .int)) :: ws) ({ frames := 1, cells := 1, slots := 8, locals := 64 } : Room)) (fun a U => a = #[(.ref xd), (.int xn)] ∧ Z.Warmed39 U.vm ∧ U.heap = h0) (fun _ _ _ _ _ => True) (fun _ U o U' => ∃ v L, o = .returned v ∧ Q_cpy Z xd xn xs h0 n0 v U'.heap L ∧ FrameEnd U o U' L ({ frames := 1, cells := 1, slots := 8, locals := 64 } : Room).cells ({ frames := 1, cells := 1, slots := 8, locals := 64 } : Room).slots) := by
  refine MetFree.of_bodySF (plainFor_of_name pn_0) hisR ?_
  intro p e s m args below meth c s₁ Bd hml0 hP hK
  obtain ⟨rfl, hZ, hh⟩ := hP
  have hx := Bd.exec
  have hby := Bd.bytes
  have hml : c.maxLocals = 3 := hml0
  have hown : s.vm.findClass "java/util/Arrays" = some m.cls := findClass_of_methodNamed Bd.named
  have hnm := (name_of_methodNamed Bd.named Bd.method).1
  have X0 : Stand p l e ({ frames := 1, cells := 1, slots := 8, locals := 64 } : Room) s m #[(.ref xd), (.int xn)] below meth c s₁ [] 0 0 := Stand.of_body Bd
  have e0 : s₁.heap = h0 := by rw [← hh, Bd.state]; rfl
  have N0 := Fr.nil n0
  have pre0 : ∀ t, Steps p.tables e below (s₁.setTop (mkF m 0 #[.val (.ref xd), .val (.int xn), .unset] [])) t → Steps p.tables e below (s₁.setTop (entryFrame m #[(.ref xd), (.int xn)] 3)) t := fun t k => castTop (ef_cpy m xd xn) k
  have ll := Ad.1
  obtain ⟨hn0, hle⟩ := own_lt ll hlt
  have hne : ¬ xn = Int32.ofNat xs.length := fun q => by rw [q, Int32.lt_iff_toInt_lt] at hlt; omega
  have hmn := own_min hlt
  obtain ⟨cl1, Ar1, ln1⟩ := Ad.ln
  obtain ⟨T2, h2, k2, X2, e2, E2, A2, st2⟩ := newP X0 hx hZ (hw _ (List.mem_of_getElem? (i := 9) rfl)) e0 (g := (mkF m 15 #[.val (.ref xd), .val (.int xn), .unset] [(.int xn)])) rfl (hb hby d_jdk_65_method_123_15) rfl hn0 (cap := 8) hcap (by decide) (by decide) (by decide)
  obtain ⟨b2, g2⟩ : ∃ z, z = h0.size := ⟨_, rfl⟩
  rw [← g2] at A2 st2
  have g_b2 : n0 ≤ b2 := Nat.le_trans Z0 (Nat.le_of_eq g2.symm)
  have ne_xd_b2 : xd ≠ b2 := Nat.ne_of_lt (Nat.lt_of_lt_of_le Ad.lt (Nat.le_of_eq g2.symm))
  have A2_xd := Ad.ext E2
  have V_b2 : IA Z h2 b2 (List.replicate xn.toNatClampNeg 0) := IA.new xn.toNatClampNeg A2 (Nat.le_trans hcap (by decide)) (own_back hn0)
  obtain ⟨cl3, Ar3, ln3⟩ := A2_xd.ln
  obtain ⟨_, _, ⟨T4, L4, k4, n4⟩, -, X4, ⟨Lc4, hQ4, l4, y4, z4⟩, st4⟩ := Jvm.LawKit.callS X2 hx (y := (⟨"java/lang/Math", "min", "(II)I"⟩ : MethodName)) hown (mvT hZ (hw _ (List.mem_of_getElem? (i := 33) rfl))) (mvT hZ (hw _ (List.mem_of_getElem? (i := 34) rfl))) (mvT hZ (hw _ (List.mem_of_getElem? (i := 27) rfl))) (mvT hZ (hw _ (List.mem_of_getElem? (i := 35) rfl))) (by decide) (backOf (W := 4) (rm_min l Z a0 hw [] (Int32.ofNat xs.length) xn h2 n0 (Nat.le_trans Z0 E2.1) ) hZ (hw _ (List.mem_of_getElem? (i := 35) rfl)) (hw _ (List.mem_of_getElem? (i := 27) rfl)) (by decide) (by decide)) (g := (mkF m 25 #[.val (.ref xd), .val (.int xn), .val (.ref b2)] [(.int xn), (.int (Int32.ofNat xs.length)), (.int (0 : Int32)), (.ref b2), (.int (0 : Int32)), (.ref xd)])) rfl (by rw [hml]; rfl) (argsL := [(.int (Int32.ofNat xs.length)), (.int xn)]) (rest := [(.int (0 : Int32)), (.ref b2), (.int (0 : Int32)), (.ref xd)]) (lenOf pd_0 rfl) rfl (by show 2 * 0 + _ ≤ _; exact Nat.le_of_eq rfl) (hb hby d_jdk_65_method_123_25) (fun _ _ => ⟨rfl, e2, (by decide : 1 + 0 ≤ _), (by decide : 8 + 0 ≤ _)⟩)
  dsimp only [Pt.U, Pt.locs, Pt.cells, Pt.slots] at X4 l4 y4 z4 st4 hQ4
  subst l4 y4 z4
  obtain ⟨rfl, N4q, e4⟩ := hQ4
  have N4 := Fr.app N0 N4q
  obtain ⟨lS5, kS5, vS5⟩ := id A2_xd
  obtain ⟨lB5, kB5, vB5⟩ := id V_b2
  obtain ⟨T5, h5, Ln5, X5, e5, N5, K5, B5, st5⟩ := cpA X4 hx hZ hown (hw _ (List.mem_of_getElem? (i := 36) rfl)) (hw _ (List.mem_of_getElem? (i := 39) rfl)) (hw _ (List.mem_of_getElem? (i := 37) rfl)) (hw _ (List.mem_of_getElem? (i := 38) rfl)) e4 (us := vI xs) vS5 vB5 (Or.inl ⟨rfl, rfl⟩) (by decide) (by decide) (own_nneg ll) (Nat.le_of_eq (Nat.zero_add _)) (by rw [own_clamp ll, own_clamp lB5, List.length_replicate]; exact Nat.le_trans (Nat.le_of_eq (Nat.zero_add _)) hle) (own_us ll) (by rw [own_clamp ll]; show 0 + _ ≤ (List.map _ _).length; rw [List.length_map, List.length_replicate]; omega) N4 g_b2 (g := (mkF m 28 #[.val (.ref xd), .val (.int xn), .val (.ref b2)] [(.int (Int32.ofNat xs.length)), (.int (0 : Int32)), (.ref b2), (.int (0 : Int32)), (.ref xd)])) rfl (by rw [hml]; rfl) rfl (hb hby d_jdk_65_method_123_28) (by decide) (W := 0) (by show 2 * 0 + _ ≤ _; exact Nat.le_of_eq rfl) (by decide)
  have A5_xd := A2_xd.keep K5 (ninS ne_xd_b2 nin0)
  have AC5 : IA Z h5 b2 (cpyF xs xn) := own_copy ll hcap hle B5
  obtain ⟨fs, hr, hrun, hended, hW, hsame⟩ := X5.leave (v := some (.ref b2)) (fun h => by rw [Bd.returns] at h; cases h)
  refine ⟨_, _, pre0 _ ?_, hrun, hended, _, _, rfl, ?_, ⟨_, rfl⟩, hW, hsame.mono (by decide) (by decide)⟩
  · show Steps p.tables e below (s₁.setTop (mkF m 0 #[.val (.ref xd), .val (.int xn), .unset] [])) _
    refine XS.iloadN X0.here hx rfl (hb hby d_jdk_65_method_123_0) rfl ?_
    show Steps p.tables e below (s₁.setTop (mkF m 1 #[.val (.ref xd), .val (.int xn), .unset] [(.int xn)])) _
    refine XS.aloadN X0.here hx rfl (hb hby d_jdk_65_method_123_1) rfl rfl ?_
    show Steps p.tables e below (s₁.setTop (mkF m 2 #[.val (.ref xd), .val (.int xn), .unset] [(.ref xd), (.int xn)])) _
    refine X0.arraylength hx (by rw [e0]; exact Ar1.1) (State.isArrayOf_alike hZ.alike Ar1.2.1) (g := (mkF m 2 #[.val (.ref xd), .val (.int xn), .unset] [(.ref xd), (.int xn)])) rfl rfl (hb hby d_jdk_65_method_123_2) _ ?_
    rw [ln1]
    show Steps p.tables e below (s₁.setTop (mkF m 3 #[.val (.ref xd), .val (.int xn), .unset] [(.int (Int32.ofNat xs.length)), (.int xn)])) _
    refine XS.icmpYes X0.here hx rfl (pc0 := 3) (pc' := 14) rfl (hb hby d_jdk_65_method_123_3) rfl (feq hne).2 (by decide) (by decide) ?_
    show Steps p.tables e below (s₁.setTop (mkF m 14 #[.val (.ref xd), .val (.int xn), .unset] [])) _
    refine XS.iloadN X0.here hx rfl (hb hby d_jdk_65_method_123_14) rfl ?_
    show Steps p.tables e below (s₁.setTop (mkF m 15 #[.val (.ref xd), .val (.int xn), .unset] [(.int xn)])) _
    refine st2 _ ?_
    show Steps p.tables e below (T2.setTop (mkF m 17 #[.val (.ref xd), .val (.int xn), .unset] [(.ref b2)])) _
    refine XS.astoreN X2.here hx rfl (hb hby d_jdk_65_method_123_17) rfl rfl (l' := #[.val (.ref xd), .val (.int xn), .val (.ref b2)]) rfl ?_
    show Steps p.tables e below (T2.setTop (mkF m 18 #[.val (.ref xd), .val (.int xn), .val (.ref b2)] [])) _
    refine XS.aloadN X2.here hx rfl (hb hby d_jdk_65_method_123_18) rfl rfl ?_
    show Steps p.tables e below (T2.setTop (mkF m 19 #[.val (.ref xd), .val (.int xn), .val (.ref b2)] [(.ref xd)])) _
    refine XS.iconst X2.here hx rfl (hb hby d_jdk_65_method_123_19) ?_
    show Steps p.tables e below (T2.setTop (mkF m 20 #[.val (.ref xd), .val (.int xn), .val (.ref b2)] [(.int (0 : Int32)), (.ref xd)])) _
    refine XS.aloadN X2.here hx rfl (hb hby d_jdk_65_method_123_20) rfl rfl ?_
    show Steps p.tables e below (T2.setTop (mkF m 21 #[.val (.ref xd), .val (.int xn), .val (.ref b2)] [(.ref b2), (.int (0 : Int32)), (.ref xd)])) _
    refine XS.iconst X2.here hx rfl (hb hby d_jdk_65_method_123_21) ?_
    show Steps p.tables e below (T2.setTop (mkF m 22 #[.val (.ref xd), .val (.int xn), .val (.ref b2)] [(.int (0 : Int32)), (.ref b2), (.int (0 : Int32)), (.ref xd)])) _
    refine XS.aloadN X2.here hx rfl (hb hby d_jdk_65_method_123_22) rfl rfl ?_
    show Steps p.tables e below (T2.setTop (mkF m 23 #[.val (.ref xd), .val (.int xn), .val (.ref b2)] [(.ref xd), (.int (0 : Int32)), (.ref b2), (.int (0 : Int32)), (.ref xd)])) _
    refine X2.arraylength hx (by rw [e2]; exact Ar3.1) (State.isArrayOf_alike hZ.alike Ar3.2.1) (g := (mkF m 23 #[.val (.ref xd), .val (.int xn), .val (.ref b2)] [(.ref xd), (.int (0 : Int32)), (.ref b2), (.int (0 : Int32)), (.ref xd)])) rfl rfl (hb hby d_jdk_65_method_123_23) _ ?_
    rw [ln3]
    show Steps p.tables e below (T2.setTop (mkF m 24 #[.val (.ref xd), .val (.int xn), .val (.ref b2)] [(.int (Int32.ofNat xs.length)), (.int (0 : Int32)), (.ref b2), (.int (0 : Int32)), (.ref xd)])) _
    refine XS.iloadN X2.here hx rfl (hb hby d_jdk_65_method_123_24) rfl ?_
    show Steps p.tables e below (T2.setTop (mkF m 25 #[.val (.ref xd), .val (.int xn), .val (.ref b2)] [(.int xn), (.int (Int32.ofNat xs.length)), (.int (0 : Int32)), (.ref b2), (.int (0 : Int32)), (.ref xd)])) _
    refine st4 _ ?_
    show Steps p.tables e below (T4.setTop (mkF m 28 #[.val (.ref xd), .val (.int xn), .val (.ref b2)] [(.int (minF (Int32.ofNat xs.length) xn)), (.int (0 : Int32)), (.ref b2), (.int (0 : Int32)), (.ref xd)])) _
    rw [hmn]
    show Steps p.tables e below (T4.setTop (mkF m 28 #[.val (.ref xd), .val (.int xn), .val (.ref b2)] [(.int (Int32.ofNat xs.length)), (.int (0 : Int32)), (.ref b2), (.int (0 : Int32)), (.ref xd)])) _
    refine st5 _ ?_
    show Steps p.tables e below (T5.setTop (mkF m 31 #[.val (.ref xd), .val (.int xn), .val (.ref b2)] [])) _
    refine XS.aloadN X5.here hx rfl (hb hby d_jdk_65_method_123_31) rfl rfl ?_
    show Steps p.tables e below (T5.setTop (mkF m 32 #[.val (.ref xd), .val (.int xn), .val (.ref b2)] [(.ref b2)])) _
    jvm_step X5.here [X5.here.top, hx, (hb hby d_jdk_65_method_123_32), X5.method', Bd.returns, Value.isRef, FieldType.isReference]
    first | (intro acts; rw [hr _ acts rfl rfl rfl]) | rw [hr _ _ rfl rfl rfl]
    exact Steps.refl _
  · show Q_cpy Z xd xn xs h0 n0 _ T5.heap _
    rw [e5]
    exact ⟨(by rw [g2]), N5, ((Keep.refl h0 []).ext E2).trans K5 (allS (Or.inr (Nat.le_of_eq g2.symm)) all0), (by rw [← g2]; exact AC5)⟩
theorem d_jdk_65_method_104_0 : decode jdk_65_method_104_code 0 = .ok (.aload_n 0, 1) := by decide +kernel
theorem d_jdk_65_method_104_1 : decode jdk_65_method_104_code 1 = .ok (.arraylength, 1) := by decide +kernel
theorem d_jdk_65_method_104_2 : decode jdk_65_method_104_code 2 = .ok (.iload_n 1, 1) := by decide +kernel
theorem d_jdk_65_method_104_3 : decode jdk_65_method_104_code 3 = .ok (.iload_n 2, 1) := by decide +kernel
theorem d_jdk_65_method_104_4 : decode jdk_65_method_104_code 4 = .ok (.invokestatic 13, 3) := by decide +kernel
theorem d_jdk_65_method_104_7 : decode jdk_65_method_104_code 7 = .ok (.iload_n 1, 1) := by decide +kernel
theorem d_jdk_65_method_104_8 : decode jdk_65_method_104_code 8 = .ok (.istore 4, 2) := by decide +kernel
theorem d_jdk_65_method_104_10 : decode jdk_65_method_104_code 10 = .ok (.iload 4, 2) := by decide +kernel
theorem d_jdk_65_method_104_12 : decode jdk_65_method_104_code 12 = .ok (.iload_n 2, 1) := by decide +kernel
theorem d_jdk_65_method_104_13 : decode jdk_65_method_104_code 13 = .ok (.if_icmp .ge 14, 3) := by decide +kernel
theorem d_jdk_65_method_104_16 : decode jdk_65_method_104_code 16 = .ok (.aload_n 0, 1) := by decide +kernel
theorem d_jdk_65_method_104_17 : decode jdk_65_method_104_code 17 = .ok (.iload 4, 2) := by decide +kernel
theorem d_jdk_65_method_104_19 : decode jdk_65_method_104_code 19 = .ok (.iload_n 3, 1) := by decide +kernel
theorem d_jdk_65_method_104_20 : decode jdk_65_method_104_code 20 = .ok (.iastore, 1) := by decide +kernel
theorem d_jdk_65_method_104_21 : decode jdk_65_method_104_code 21 = .ok (.iinc 4 1, 3) := by decide +kernel
theorem d_jdk_65_method_104_24 : decode jdk_65_method_104_code 24 = .ok (.goto (-14), 3) := by decide +kernel
theorem d_jdk_65_method_104_27 : decode jdk_65_method_104_code 27 = .ok (.return_, 1) := by decide +kernel
set_option maxRecDepth 65536 in
set_option maxHeartbeats 40000000 in
theorem fill_loop {p : Program} {l : Launch} {e : Env} {R : Room} {s : State} {m : MethodId} {args : Array Value} {below : List Frame} {meth : Method} {c : Code} {cells slots : Nat} {Z : State} {a0 : Array Value} {h0 : Heap} {n0 : Nat} {xd : Addr} {xf xt xv : Int32} (hx : p.tables.exec = Jvm.exec) (hZ : Z.Warmed39 s.vm) (hby : c.code = jdk_65_method_104_code) (gd : n0 ≤ xd) :
    ∀ (k : Nat) (i : Int32) (xs : List Int32) (T : State) (locs : List Loc) (h : Heap), Stand p l e R s m args below meth c T locs cells slots → T.heap = h → IA Z h xd xs → Keep h0 h [xd] → n0 ≤ h.size → Fr n0 locs → ¬ i < 0 → i.toInt + k = xt.toInt → xt = Int32.ofNat xs.length →
      ∃ (T' : State) (locs' : List Loc) (h' : Heap), Stand p l e R s m args below meth c T' locs' cells slots ∧ T'.heap = h' ∧ IA Z h' xd (fillG k i xs xv) ∧ Keep h0 h' [xd] ∧ n0 ≤ h'.size ∧ Fr n0 locs' ∧ ∀ target, Steps p.tables e below (T'.setTop (mkF m 27 #[.val (.ref xd), .val (.int xf), .val (.int xt), .val (.int xv), .val (.int xt)] [])) target → Steps p.tables e below (T.setTop (mkF m 10 #[.val (.ref xd), .val (.int xf), .val (.int xt), .val (.int xv), .val (.int i)] [])) target := by
  intro k
  induction k with
  | zero =>
    intro i xs T locs h X0 e0 A0 K0 Z0 N0 hi hk hl
    obtain rfl : i = xt := Int32.toInt_inj.mp (by omega)
    refine ⟨T, locs, h, X0, e0, A0, K0, Z0, N0, fun target kt => ?_⟩
    show Steps p.tables e below (T.setTop (mkF m 10 #[.val (.ref xd), .val (.int xf), .val (.int i), .val (.int xv), .val (.int i)] [])) _
    refine XS.iload X0.here hx rfl (hb hby d_jdk_65_method_104_10) rfl ?_
    show Steps p.tables e below (T.setTop (mkF m 12 #[.val (.ref xd), .val (.int xf), .val (.int i), .val (.int xv), .val (.int i)] [(.int i)])) _
    refine XS.iloadN X0.here hx rfl (hb hby d_jdk_65_method_104_12) rfl ?_
    show Steps p.tables e below (T.setTop (mkF m 13 #[.val (.ref xd), .val (.int xf), .val (.int i), .val (.int xv), .val (.int i)] [(.int i), (.int i)])) _
    refine XS.icmpYes X0.here hx rfl (pc0 := 13) (pc' := 27) rfl (hb hby d_jdk_65_method_104_13) rfl (flt (fun q => Int.lt_irrefl _ (Int32.lt_iff_toInt_lt.mp q))).2.1 (by decide) (by decide) ?_
    exact kt
  | succ k ih =>
    intro i xs T locs h X0 e0 A0 K0 Z0 N0 hi hk hl
    have hlt : i < xt := by rw [Int32.lt_iff_toInt_lt]; omega
    have hlen := A0.1
    have hir : inR xs i = true := inR_iff.mpr ⟨hi, by rw [hl, own_len hlen] at hk; rw [Int32.lt_iff_toInt_lt, show (0 : Int32).toInt = 0 from rfl] at hi; simp only [Int32.toNatClampNeg]; omega⟩
    obtain ⟨cl1, Ar1, hin1, -, u1⟩ := A0.rd (j := i) hir
    obtain ⟨T1, h1, X1, e1, W1, st1⟩ := stI X0 hx hZ e0 Ar1 (j := i) hin1 (g := (mkF m 20 #[.val (.ref xd), .val (.int xf), .val (.int xt), .val (.int xv), .val (.int i)] [(.int xv), (.int i), (.ref xd)])) rfl rfl (hb hby d_jdk_65_method_104_20)
    have A1_xd := u1 _ _ W1
    have N1 := Fr.snoc X1 N0 gd
    have hi1 : (i + (1 : Int32)).toInt = i.toInt + 1 := by have a := c_iadd i 1; have r := rng32 (i + 1); have r' := rng32 xt; have r'' := rng32 i; rw [show (1 : Int32).toInt = 1 from rfl] at a; omega
    obtain ⟨T', locs', h', X', e', A', K', Z', N', st'⟩ := ih (i + (1 : Int32)) (sI xs i xv) T1 _ h1 X1 e1 A1_xd (K0.wr W1 (Or.inl (List.mem_cons_self ..))) (Nat.le_trans Z0 (Keep.of_wr W1).1) N1 (by rw [Int32.lt_iff_toInt_lt, hi1]; rw [Int32.lt_iff_toInt_lt] at hi; show ¬ _ < (0 : Int); change ¬ _ < (0 : Int) at hi; omega) (by rw [hi1]; omega) (by rw [hl]; show _ = Int32.ofNat (xs.set _ _).length; rw [List.length_set])
    refine ⟨T', locs', h', X', e', A', K', Z', N', fun target kt => ?_⟩
    show Steps p.tables e below (T.setTop (mkF m 10 #[.val (.ref xd), .val (.int xf), .val (.int xt), .val (.int xv), .val (.int i)] [])) _
    refine XS.iload X0.here hx rfl (hb hby d_jdk_65_method_104_10) rfl ?_
    show Steps p.tables e below (T.setTop (mkF m 12 #[.val (.ref xd), .val (.int xf), .val (.int xt), .val (.int xv), .val (.int i)] [(.int i)])) _
    refine XS.iloadN X0.here hx rfl (hb hby d_jdk_65_method_104_12) rfl ?_
    show Steps p.tables e below (T.setTop (mkF m 13 #[.val (.ref xd), .val (.int xf), .val (.int xt), .val (.int xv), .val (.int i)] [(.int xt), (.int i)])) _
    refine XS.icmpNo X0.here hx rfl (hb hby d_jdk_65_method_104_13) rfl (tlt hlt).2.1 ?_
    show Steps p.tables e below (T.setTop (mkF m 16 #[.val (.ref xd), .val (.int xf), .val (.int xt), .val (.int xv), .val (.int i)] [])) _
    refine XS.aloadN X0.here hx rfl (hb hby d_jdk_65_method_104_16) rfl rfl ?_
    show Steps p.tables e below (T.setTop (mkF m 17 #[.val (.ref xd), .val (.int xf), .val (.int xt), .val (.int xv), .val (.int i)] [(.ref xd)])) _
    refine XS.iload X0.here hx rfl (hb hby d_jdk_65_method_104_17) rfl ?_
    show Steps p.tables e below (T.setTop (mkF m 19 #[.val (.ref xd), .val (.int xf), .val (.int xt), .val (.int xv), .val (.int i)] [(.int i), (.ref xd)])) _
    refine XS.iloadN X0.here hx rfl (hb hby d_jdk_65_method_104_19) rfl ?_
    show Steps p.tables e below (T.setTop (mkF m 20 #[.val (.ref xd), .val (.int xf), .val (.int xt), .val (.int xv), .val (.int i)] [(.int xv), (.int i), (.ref xd)])) _
    refine st1 _ ?_
    show Steps p.tables e below (T1.setTop (mkF m 21 #[.val (.ref xd), .val (.int xf), .val (.int xt), .val (.int xv), .val (.int i)] [])) _
    refine XS.iinc X1.here hx rfl (hb hby d_jdk_65_method_104_21) rfl (l' := #[.val (.ref xd), .val (.int xf), .val (.int xt), .val (.int xv), .val (.int (i + (1 : Int32)))]) rfl ?_
    show Steps p.tables e below (T1.setTop (mkF m 24 #[.val (.ref xd), .val (.int xf), .val (.int xt), .val (.int xv), .val (.int (i + (1 : Int32)))] [])) _
    refine XS.goto X1.here hx rfl (pc0 := 24) (pc' := 10) rfl (hb hby d_jdk_65_method_104_24) (by decide) (by decide) ?_
    exact st' _ kt
theorem pd_1 : parseMethodDescriptor "(III)V" = some ⟨[.int, .int, .int], none⟩ := by decide +kernel
theorem ef_fill (m : MethodId) (xd : Addr) (xf : Int32) (xt : Int32) (xv : Int32) : entryFrame m #[(.ref xd), (.int xf), (.int xt), (.int xv)] 5 = mkF m 0 #[.val (.ref xd), .val (.int xf), .val (.int xt), .val (.int xv), .unset] [] := by first | (simp [entryFrame, mkF, argsToLocals, Value.category]; done) | rfl
def Q_fill (Z : State) (xd : Addr) (xf : Int32) (xt : Int32) (xv : Int32) (xs : List Int32) (kk : Nat) (h0 : Heap) (n0 : Nat) (v : Option Value) (h : Heap) (L : List Loc) : Prop := v = none ∧ Fr n0 L ∧ Keep h0 h [xd] ∧ IA Z h xd (fillG kk xf xs xv)
set_option maxRecDepth 65536 in
set_option maxHeartbeats 40000000 in
theorem rm_fill (l : Launch) (Z : State) (a0 : Array Value) (hw : ∀ d ∈ tables_1, d.before a0 Z = true) (ws : List Jvm.Cond) (xd : Addr) (xf : Int32) (xt : Int32) (xv : Int32) (xs : List Int32) (kk : Nat) (h0 : Heap) (n0 : Nat) (Z0 : n0 ≤ h0.size) (Ad : IA Z h0 xd xs) (gd : n0 ≤ xd) (hf0 : ¬ xf < 0) (hkk : xf.toInt + kk = xt.toInt) (hlen : xt = Int32.ofNat xs.length) :
    MetFree l (⟨"java/util/Arrays", "fill", "([IIII)V"⟩ : MethodName) (head1 (Jvm.Cond.code (⟨"java/util/Arrays", "fill", "([IIII)V"⟩ : MethodName) jdk_65_method_104_code 5 none :: ws) ({ frames := 1, cells := 0, slots := 0, locals := 14 } : Room)) (fun a U => a = #[(.ref xd), (.int xf), (.int xt), (.int xv)] ∧ Z.Warmed39 U.vm ∧ U.heap = h0) (fun _ _ _ _ _ => True) (fun _ U o U' => ∃ v L, o = .returned v ∧ Q_fill Z xd xf xt xv xs kk h0 n0 v U'.heap L ∧ FrameEnd U o U' L ({ frames := 1, cells := 0, slots := 0, locals := 14 } : Room).cells ({ frames := 1, cells := 0, slots := 0, locals := 14 } : Room).slots) := by
  refine MetFree.of_bodySF (plainFor_of_name pn_0) hisR ?_
  intro p e s m args below meth c s₁ Bd hml0 hP hK
  obtain ⟨rfl, hZ, hh⟩ := hP
  have hx := Bd.exec
  have hby := Bd.bytes
  have hml : c.maxLocals = 5 := hml0
  have hown : s.vm.findClass "java/util/Arrays" = some m.cls := findClass_of_methodNamed Bd.named
  have hnm := (name_of_methodNamed Bd.named Bd.method).1
  have X0 : Stand p l e ({ frames := 1, cells := 0, slots := 0, locals := 14 } : Room) s m #[(.ref xd), (.int xf), (.int xt), (.int xv)] below meth c s₁ [] 0 0 := Stand.of_body Bd
  have e0 : s₁.heap = h0 := by rw [← hh, Bd.state]; rfl
  have N0 := Fr.nil n0
  have pre0 : ∀ t, Steps p.tables e below (s₁.setTop (mkF m 0 #[.val (.ref xd), .val (.int xf), .val (.int xt), .val (.int xv), .unset] [])) t → Steps p.tables e below (s₁.setTop (entryFrame m #[(.ref xd), (.int xf), (.int xt), (.int xv)] 5)) t := fun t k => castTop (ef_fill m xd xf xt xv) k
  obtain ⟨cl1, Ar1, ln1⟩ := Ad.ln
  obtain ⟨_, _, ⟨T2, L2, k2, n2⟩, -, X2, ⟨Lc2, hQ2, l2, y2, z2⟩, st2⟩ := Jvm.LawKit.callS X0 hx (y := (⟨"java/util/Arrays", "rangeCheck", "(III)V"⟩ : MethodName)) hown (mvT hZ (hw _ (List.mem_of_getElem? (i := 43) rfl))) (mvT hZ (hw _ (List.mem_of_getElem? (i := 44) rfl))) (mvT hZ (hw _ (List.mem_of_getElem? (i := 31) rfl))) (mvT hZ (hw _ (List.mem_of_getElem? (i := 45) rfl))) (by decide) (backOf (W := 0) (rm_rng l Z a0 hw [] (Int32.ofNat xs.length) xf xt h0 n0 Z0 (fun q => by rw [Int32.lt_iff_toInt_lt] at q; omega) hf0 (fun q => by rw [← hlen, Int32.lt_iff_toInt_lt] at q; omega)) hZ (hw _ (List.mem_of_getElem? (i := 45) rfl)) (hw _ (List.mem_of_getElem? (i := 31) rfl)) (by decide) (by decide)) (g := (mkF m 4 #[.val (.ref xd), .val (.int xf), .val (.int xt), .val (.int xv), .unset] [(.int xt), (.int xf), (.int (Int32.ofNat xs.length))])) rfl (by rw [hml]; rfl) (argsL := [(.int (Int32.ofNat xs.length)), (.int xf), (.int xt)]) (rest := []) (lenOf pd_1 rfl) rfl (by show 2 * 0 + _ ≤ _; exact Nat.le_of_eq rfl) (hb hby d_jdk_65_method_104_4) (fun _ _ => ⟨rfl, e0, (by decide : 0 + 0 ≤ _), (by decide : 0 + 0 ≤ _)⟩)
  dsimp only [Pt.U, Pt.locs, Pt.cells, Pt.slots] at X2 l2 y2 z2 st2 hQ2
  subst l2 y2 z2
  obtain ⟨rfl, N2q, e2⟩ := hQ2
  have N2 := Fr.app N0 N2q
  obtain ⟨T3, L3, h3, X3, e3, A3, K3, Z3, N3, st3⟩ := fill_loop (a0 := a0) (h0 := h0) (xf := xf) (xv := xv) hx hZ hby gd kk xf xs T2 _ h0 X2 e2 Ad (Keep.refl _ _) Z0 N2 hf0 hkk hlen
  obtain ⟨fs, hr, hrun, hended, hW, hsame⟩ := X3.leave (v := none) (fun _ => rfl)
  refine ⟨_, _, pre0 _ ?_, hrun, hended, _, _, rfl, ?_, ⟨_, rfl⟩, hW, hsame.mono (by decide) (by decide)⟩
  · show Steps p.tables e below (s₁.setTop (mkF m 0 #[.val (.ref xd), .val (.int xf), .val (.int xt), .val (.int xv), .unset] [])) _
    refine XS.aloadN X0.here hx rfl (hb hby d_jdk_65_method_104_0) rfl rfl ?_
    show Steps p.tables e below (s₁.setTop (mkF m 1 #[.val (.ref xd), .val (.int xf), .val (.int xt), .val (.int xv), .unset] [(.ref xd)])) _
    refine X0.arraylength hx (by rw [e0]; exact Ar1.1) (State.isArrayOf_alike hZ.alike Ar1.2.1) (g := (mkF m 1 #[.val (.ref xd), .val (.int xf), .val (.int xt), .val (.int xv), .unset] [(.ref xd)])) rfl rfl (hb hby d_jdk_65_method_104_1) _ ?_
    rw [ln1]
    show Steps p.tables e below (s₁.setTop (mkF m 2 #[.val (.ref xd), .val (.int xf), .val (.int xt), .val (.int xv), .unset] [(.int (Int32.ofNat xs.length))])) _
    refine XS.iloadN X0.here hx rfl (hb hby d_jdk_65_method_104_2) rfl ?_
    show Steps p.tables e below (s₁.setTop (mkF m 3 #[.val (.ref xd), .val (.int xf), .val (.int xt), .val (.int xv), .unset] [(.int xf), (.int (Int32.ofNat xs.length))])) _
    refine XS.iloadN X0.here hx rfl (hb hby d_jdk_65_method_104_3) rfl ?_
    show Steps p.tables e below (s₁.setTop (mkF m 4 #[.val (.ref xd), .val (.int xf), .val (.int xt), .val (.int xv), .unset] [(.int xt), (.int xf), (.int (Int32.ofNat xs.length))])) _
    refine st2 _ ?_
    show Steps p.tables e below (T2.setTop (mkF m 7 #[.val (.ref xd), .val (.int xf), .val (.int xt), .val (.int xv), .unset] [])) _
    refine XS.iloadN X2.here hx rfl (hb hby d_jdk_65_method_104_7) rfl ?_
    show Steps p.tables e below (T2.setTop (mkF m 8 #[.val (.ref xd), .val (.int xf), .val (.int xt), .val (.int xv), .unset] [(.int xf)])) _
    refine XS.istore X2.here hx rfl (hb hby d_jdk_65_method_104_8) rfl (l' := #[.val (.ref xd), .val (.int xf), .val (.int xt), .val (.int xv), .val (.int xf)]) rfl ?_
    show Steps p.tables e below (T2.setTop (mkF m 10 #[.val (.ref xd), .val (.int xf), .val (.int xt), .val (.int xv), .val (.int xf)] [])) _
    refine st3 _ ?_
    show Steps p.tables e below (T3.setTop (mkF m 27 #[.val (.ref xd), .val (.int xf), .val (.int xt), .val (.int xv), .val (.int xt)] [])) _
    exact X3.returnOut hx Bd.returns (hb hby d_jdk_65_method_104_27) hr
  · show Q_fill Z xd xf xt xv xs kk h0 n0 _ T3.heap _
    rw [e3]
    exact ⟨rfl, N3, K3, A3⟩
theorem d_prog_131_method_3_0 : decode prog_131_method_3_code 0 = .ok (.aload_n 0, 1) := by decide +kernel
theorem d_prog_131_method_3_1 : decode prog_131_method_3_code 1 = .ok (.dup, 1) := by decide +kernel
theorem d_prog_131_method_3_2 : decode prog_131_method_3_code 2 = .ok (.getfield 41, 3) := by decide +kernel
theorem d_prog_131_method_3_5 : decode prog_131_method_3_code 5 = .ok (.iconst 1, 1) := by decide +kernel
theorem d_prog_131_method_3_6 : decode prog_131_method_3_code 6 = .ok (.iadd, 1) := by decide +kernel
theorem d_prog_131_method_3_7 : decode prog_131_method_3_code 7 = .ok (.putfield 41, 3) := by decide +kernel
theorem d_prog_131_method_3_10 : decode prog_131_method_3_code 10 = .ok (.aload_n 0, 1) := by decide +kernel
theorem d_prog_131_method_3_11 : decode prog_131_method_3_code 11 = .ok (.getfield 41, 3) := by decide +kernel
theorem d_prog_131_method_3_14 : decode prog_131_method_3_code 14 = .ok (.aload_n 0, 1) := by decide +kernel
theorem d_prog_131_method_3_15 : decode prog_131_method_3_code 15 = .ok (.getfield 22, 3) := by decide +kernel
theorem d_prog_131_method_3_18 : decode prog_131_method_3_code 18 = .ok (.arraylength, 1) := by decide +kernel
theorem d_prog_131_method_3_19 : decode prog_131_method_3_code 19 = .ok (.if_icmp .ne 20, 3) := by decide +kernel
theorem d_prog_131_method_3_39 : decode prog_131_method_3_code 39 = .ok (.aload_n 0, 1) := by decide +kernel
theorem d_prog_131_method_3_40 : decode prog_131_method_3_code 40 = .ok (.getfield 22, 3) := by decide +kernel
theorem d_prog_131_method_3_43 : decode prog_131_method_3_code 43 = .ok (.aload_n 0, 1) := by decide +kernel
theorem d_prog_131_method_3_44 : decode prog_131_method_3_code 44 = .ok (.getfield 41, 3) := by decide +kernel
theorem d_prog_131_method_3_47 : decode prog_131_method_3_code 47 = .ok (.aload_n 0, 1) := by decide +kernel
theorem d_prog_131_method_3_48 : decode prog_131_method_3_code 48 = .ok (.getfield 49, 3) := by decide +kernel
theorem d_prog_131_method_3_51 : decode prog_131_method_3_code 51 = .ok (.iastore, 1) := by decide +kernel
theorem d_prog_131_method_3_52 : decode prog_131_method_3_code 52 = .ok (.return_, 1) := by decide +kernel
theorem pn_1 : plainName "com/example/orsay/orsay/SiblingPositions" = true := by first | (simp [plainName, overriddenIn]; done) | decide +kernel
theorem ef_open (m : MethodId) (xa : Addr) : entryFrame m #[(.ref xa)] 1 = mkF m 0 #[.val (.ref xa)] [] := by first | (simp [entryFrame, mkF, argsToLocals, Value.category]; done) | rfl
def Q_open (Z : State) (xa : Addr) (ic : List Int32) (cl : List Int32) (cv : List Int32) (hc : List Int32) (fc : List Int32) (cnt : Int32) (dep : Int32) (h0 : Heap) (n0 : Nat) (v : Option Value) (h : Heap) (L : List Loc) : Prop := v = none ∧ Fr n0 L ∧ SPs Z n0 h xa (openS (ic, cl, cv, hc, fc, cnt, dep))
set_option maxRecDepth 65536 in
set_option maxHeartbeats 40000000 in
theorem rm_open (l : Launch) (Z : State) (a0 : Array Value) (hw : ∀ d ∈ tables_1, d.before a0 Z = true) (ws : List Jvm.Cond) (xa : Addr) (ic : List Int32) (cl : List Int32) (cv : List Int32) (hc : List Int32) (fc : List Int32) (cnt : Int32) (dep : Int32) (h0 : Heap) (n0 : Nat) (Z0 : n0 ≤ h0.size) (hS : SP Z n0 h0 xa ic cl cv hc fc cnt dep) (hok : openOk (ic, cl, cv, hc, fc, cnt, dep) = true) :
    MetFree l (⟨"com/example/orsay/orsay/SiblingPositions", "open", "()V"⟩ : MethodName) (head1 (Jvm.Cond.code (⟨"com/example/orsay/orsay/SiblingPositions", "open", "()V"⟩ : MethodName) prog_131_method_3_code 1 none :: ws) ({ frames := 0, cells := 0, slots := 0, locals := 0 } : Room)) (fun a U => a = #[(.ref xa)] ∧ Z.Warmed39 U.vm ∧ U.heap = h0) (fun _ _ _ _ _ => True) (fun _ U o U' => ∃ v L, o = .returned v ∧ Q_open Z xa ic cl cv hc fc cnt dep h0 n0 v U'.heap L ∧ FrameEnd U o U' L ({ frames := 0, cells := 0, slots := 0, locals := 0 } : Room).cells ({ frames := 0, cells := 0, slots := 0, locals := 0 } : Room).slots) := by
  refine MetFree.of_bodySF (plainFor_of_name pn_1) hisR ?_
  intro p e s m args below meth c s₁ Bd hml0 hP hK
  obtain ⟨rfl, hZ, hh⟩ := hP
  have hx := Bd.exec
  have hby := Bd.bytes
  have hml : c.maxLocals = 1 := hml0
  have hown : s.vm.findClass "com/example/orsay/orsay/SiblingPositions" = some m.cls := findClass_of_methodNamed Bd.named
  have hnm := (name_of_methodNamed Bd.named Bd.method).1
  have X0 : Stand p l e ({ frames := 0, cells := 0, slots := 0, locals := 0 } : Room) s m #[(.ref xa)] below meth c s₁ [] 0 0 := Stand.of_body Bd
  have e0 : s₁.heap = h0 := by rw [← hh, Bd.state]; rfl
  have N0 := Fr.nil n0
  have pre0 : ∀ t, Steps p.tables e below (s₁.setTop (mkF m 0 #[.val (.ref xa)] [])) t → Steps p.tables e below (s₁.setTop (entryFrame m #[(.ref xa)] 1)) t := fun t k => castTop (ef_open m xa) k
  obtain ⟨bi, bl, bv, bh, bf, Ex, Fi, Fl, Fv, Fh, Ff, Fc, Fd, Ai, Al, Av, Ah, Af, ⟨ne01, ne02, ne03, ne04, ne12, ne13, ne14, ne23, ne24, ne34⟩, ⟨ga, g0, g1, g2, g3, g4⟩⟩ := id hS
  obtain ⟨o1, o2⟩ : (¬ dep + (1 : Int32) = Int32.ofNat fc.length) ∧ inR fc (dep + 1) = true := by simpa only [openOk, Bool.and_eq_true, decide_eq_true_eq] using hok
  obtain ⟨T1, X1, e1, st1⟩ := getF X0 hx hZ hown (host := "") (Or.inl (hw _ (List.mem_of_getElem? (i := 46) rfl))) Via.refl e0 Fd (g := (mkF m 2 #[.val (.ref xa)] [(.ref xa), (.ref xa)])) rfl rfl (hb hby d_prog_131_method_3_2)
  obtain ⟨T2, h2, X2, e2, W2, st2⟩ := putF X1 hx hZ hown (host := "") (Or.inl (hw _ (List.mem_of_getElem? (i := 46) rfl))) Via.refl e1 Fd Ex (Or.inl (hw _ (List.mem_of_getElem? (i := 47) rfl))) (hw _ (List.mem_of_getElem? (i := 1) rfl)) (ty := .int) (by decide) rfl rfl (g := (mkF m 7 #[.val (.ref xa)] [(.int (dep + (1 : Int32))), (.ref xa)])) rfl rfl (hb hby d_prog_131_method_3_7)
  have F2_innermostCount := Fi.other W2 (Or.inr (slot_ne (Or.inl (hw _ (List.mem_of_getElem? (i := 11) rfl))) (Or.inl (hw _ (List.mem_of_getElem? (i := 47) rfl))) (by decide) (t := (.array .int)) (t' := .int) (by decide) (by decide)))
  have F2_countLabel := Fl.other W2 (Or.inr (slot_ne (Or.inl (hw _ (List.mem_of_getElem? (i := 13) rfl))) (Or.inl (hw _ (List.mem_of_getElem? (i := 47) rfl))) (by decide) (t := (.array .int)) (t' := .int) (by decide) (by decide)))
  have F2_countValue := Fv.other W2 (Or.inr (slot_ne (Or.inl (hw _ (List.mem_of_getElem? (i := 15) rfl))) (Or.inl (hw _ (List.mem_of_getElem? (i := 47) rfl))) (by decide) (t := (.array .int)) (t' := .int) (by decide) (by decide)))
  have F2_hiddenCount := Fh.other W2 (Or.inr (slot_ne (Or.inl (hw _ (List.mem_of_getElem? (i := 17) rfl))) (Or.inl (hw _ (List.mem_of_getElem? (i := 47) rfl))) (by decide) (t := (.array .int)) (t' := .int) (by decide) (by decide)))
  have F2_firstCount := Ff.other W2 (Or.inr (slot_ne (Or.inl (hw _ (List.mem_of_getElem? (i := 19) rfl))) (Or.inl (hw _ (List.mem_of_getElem? (i := 47) rfl))) (by decide) (t := (.array .int)) (t' := .int) (by decide) (by decide)))
  have F2_counts := Fc.other W2 (Or.inr (slot_ne (Or.inl (hw _ (List.mem_of_getElem? (i := 53) rfl))) (Or.inl (hw _ (List.mem_of_getElem? (i := 47) rfl))) (by decide) (t := .int) (t' := .int) (by decide) (by decide)))
  have F2_depth := Fd.same W2
  have Ex2_xa := Ex.wr W2
  have A2_bi := Ai.other W2 (Ne.symm (Ai.neE Ex (hw _ (List.mem_of_getElem? (i := 1) rfl))))
  have A2_bl := Al.other W2 (Ne.symm (Al.neE Ex (hw _ (List.mem_of_getElem? (i := 1) rfl))))
  have A2_bv := Av.other W2 (Ne.symm (Av.neE Ex (hw _ (List.mem_of_getElem? (i := 1) rfl))))
  have A2_bh := Ah.other W2 (Ne.symm (Ah.neE Ex (hw _ (List.mem_of_getElem? (i := 1) rfl))))
  have A2_bf := Af.other W2 (Ne.symm (Af.neE Ex (hw _ (List.mem_of_getElem? (i := 1) rfl))))
  have N2 := Fr.snoc X2 N0 ga
  obtain ⟨T3, X3, e3, st3⟩ := getF X2 hx hZ hown (host := "") (Or.inl (hw _ (List.mem_of_getElem? (i := 46) rfl))) Via.refl e2 F2_depth (g := (mkF m 11 #[.val (.ref xa)] [(.ref xa)])) rfl rfl (hb hby d_prog_131_method_3_11)
  obtain ⟨T4, X4, e4, st4⟩ := getF X3 hx hZ hown (host := "") (Or.inl (hw _ (List.mem_of_getElem? (i := 18) rfl))) Via.refl e3 F2_firstCount (g := (mkF m 15 #[.val (.ref xa)] [(.ref xa), (.int (dep + (1 : Int32)))])) rfl rfl (hb hby d_prog_131_method_3_15)
  obtain ⟨cl5, Ar5, ln5⟩ := A2_bf.ln
  obtain ⟨T6, X6, e6, st6⟩ := getF X4 hx hZ hown (host := "") (Or.inl (hw _ (List.mem_of_getElem? (i := 18) rfl))) Via.refl e4 F2_firstCount (g := (mkF m 40 #[.val (.ref xa)] [(.ref xa)])) rfl rfl (hb hby d_prog_131_method_3_40)
  obtain ⟨T7, X7, e7, st7⟩ := getF X6 hx hZ hown (host := "") (Or.inl (hw _ (List.mem_of_getElem? (i := 46) rfl))) Via.refl e6 F2_depth (g := (mkF m 44 #[.val (.ref xa)] [(.ref xa), (.ref bf)])) rfl rfl (hb hby d_prog_131_method_3_44)
  obtain ⟨T8, X8, e8, st8⟩ := getF X7 hx hZ hown (host := "") (Or.inl (hw _ (List.mem_of_getElem? (i := 52) rfl))) Via.refl e7 F2_counts (g := (mkF m 48 #[.val (.ref xa)] [(.ref xa), (.int (dep + (1 : Int32))), (.ref bf)])) rfl rfl (hb hby d_prog_131_method_3_48)
  obtain ⟨cl9, Ar9, hin9, -, u9⟩ := A2_bf.rd (j := (dep + (1 : Int32))) o2
  obtain ⟨T9, h9, X9, e9, W9, st9⟩ := stI X8 hx hZ e8 Ar9 (j := (dep + (1 : Int32))) hin9 (g := (mkF m 51 #[.val (.ref xa)] [(.int cnt), (.int (dep + (1 : Int32))), (.ref bf)])) rfl rfl (hb hby d_prog_131_method_3_51)
  have F9_innermostCount := F2_innermostCount.other W9 (Or.inl (A2_bf.neE Ex2_xa (hw _ (List.mem_of_getElem? (i := 1) rfl))))
  have F9_countLabel := F2_countLabel.other W9 (Or.inl (A2_bf.neE Ex2_xa (hw _ (List.mem_of_getElem? (i := 1) rfl))))
  have F9_countValue := F2_countValue.other W9 (Or.inl (A2_bf.neE Ex2_xa (hw _ (List.mem_of_getElem? (i := 1) rfl))))
  have F9_hiddenCount := F2_hiddenCount.other W9 (Or.inl (A2_bf.neE Ex2_xa (hw _ (List.mem_of_getElem? (i := 1) rfl))))
  have F9_firstCount := F2_firstCount.other W9 (Or.inl (A2_bf.neE Ex2_xa (hw _ (List.mem_of_getElem? (i := 1) rfl))))
  have F9_counts := F2_counts.other W9 (Or.inl (A2_bf.neE Ex2_xa (hw _ (List.mem_of_getElem? (i := 1) rfl))))
  have F9_depth := F2_depth.other W9 (Or.inl (A2_bf.neE Ex2_xa (hw _ (List.mem_of_getElem? (i := 1) rfl))))
  have Ex9_xa := Ex2_xa.wr W9
  have A9_bi := A2_bi.other W9 ne04
  have A9_bl := A2_bl.other W9 ne14
  have A9_bv := A2_bv.other W9 ne24
  have A9_bh := A2_bh.other W9 ne34
  have A9_bf := u9 _ _ W9
  have N9 := Fr.snoc X9 N2 g4
  obtain ⟨fs, hr, hrun, hended, hW, hsame⟩ := X9.leave (v := none) (fun _ => rfl)
  refine ⟨_, _, pre0 _ ?_, hrun, hended, _, _, rfl, ?_, ⟨_, rfl⟩, hW, hsame.mono (by decide) (by decide)⟩
  · show Steps p.tables e below (s₁.setTop (mkF m 0 #[.val (.ref xa)] [])) _
    refine XS.aloadN X0.here hx rfl (hb hby d_prog_131_method_3_0) rfl rfl ?_
    show Steps p.tables e below (s₁.setTop (mkF m 1 #[.val (.ref xa)] [(.ref xa)])) _
    refine XS.dup X0.here hx rfl (hb hby d_prog_131_method_3_1) rfl rfl ?_
    show Steps p.tables e below (s₁.setTop (mkF m 2 #[.val (.ref xa)] [(.ref xa), (.ref xa)])) _
    refine st1 _ ?_
    show Steps p.tables e below (T1.setTop (mkF m 5 #[.val (.ref xa)] [(.int dep), (.ref xa)])) _
    refine XS.iconst X1.here hx rfl (hb hby d_prog_131_method_3_5) ?_
    show Steps p.tables e below (T1.setTop (mkF m 6 #[.val (.ref xa)] [(.int (1 : Int32)), (.int dep), (.ref xa)])) _
    refine XS.iadd X1.here hx rfl (hb hby d_prog_131_method_3_6) rfl ?_
    show Steps p.tables e below (T1.setTop (mkF m 7 #[.val (.ref xa)] [(.int (dep + (1 : Int32))), (.ref xa)])) _
    refine st2 _ ?_
    show Steps p.tables e below (T2.setTop (mkF m 10 #[.val (.ref xa)] [])) _
    refine XS.aloadN X2.here hx rfl (hb hby d_prog_131_method_3_10) rfl rfl ?_
    show Steps p.tables e below (T2.setTop (mkF m 11 #[.val (.ref xa)] [(.ref xa)])) _
    refine st3 _ ?_
    show Steps p.tables e below (T3.setTop (mkF m 14 #[.val (.ref xa)] [(.int (dep + (1 : Int32)))])) _
    refine XS.aloadN X3.here hx rfl (hb hby d_prog_131_method_3_14) rfl rfl ?_
    show Steps p.tables e below (T3.setTop (mkF m 15 #[.val (.ref xa)] [(.ref xa), (.int (dep + (1 : Int32)))])) _
    refine st4 _ ?_
    show Steps p.tables e below (T4.setTop (mkF m 18 #[.val (.ref xa)] [(.ref bf), (.int (dep + (1 : Int32)))])) _
    refine X4.arraylength hx (by rw [e4]; exact Ar5.1) (State.isArrayOf_alike hZ.alike Ar5.2.1) (g := (mkF m 18 #[.val (.ref xa)] [(.ref bf), (.int (dep + (1 : Int32)))])) rfl rfl (hb hby d_prog_131_method_3_18) _ ?_
    rw [ln5]
    show Steps p.tables e below (T4.setTop (mkF m 19 #[.val (.ref xa)] [(.int (Int32.ofNat fc.length)), (.int (dep + (1 : Int32)))])) _
    refine XS.icmpYes X4.here hx rfl (pc0 := 19) (pc' := 39) rfl (hb hby d_prog_131_method_3_19) rfl (feq o1).2 (by decide) (by decide) ?_
    show Steps p.tables e below (T4.setTop (mkF m 39 #[.val (.ref xa)] [])) _
    refine XS.aloadN X4.here hx rfl (hb hby d_prog_131_method_3_39) rfl rfl ?_
    show Steps p.tables e below (T4.setTop (mkF m 40 #[.val (.ref xa)] [(.ref xa)])) _
    refine st6 _ ?_
    show Steps p.tables e below (T6.setTop (mkF m 43 #[.val (.ref xa)] [(.ref bf)])) _
    refine XS.aloadN X6.here hx rfl (hb hby d_prog_131_method_3_43) rfl rfl ?_
    show Steps p.tables e below (T6.setTop (mkF m 44 #[.val (.ref xa)] [(.ref xa), (.ref bf)])) _
    refine st7 _ ?_
    show Steps p.tables e below (T7.setTop (mkF m 47 #[.val (.ref xa)] [(.int (dep + (1 : Int32))), (.ref bf)])) _
    refine XS.aloadN X7.here hx rfl (hb hby d_prog_131_method_3_47) rfl rfl ?_
    show Steps p.tables e below (T7.setTop (mkF m 48 #[.val (.ref xa)] [(.ref xa), (.int (dep + (1 : Int32))), (.ref bf)])) _
    refine st8 _ ?_
    show Steps p.tables e below (T8.setTop (mkF m 51 #[.val (.ref xa)] [(.int cnt), (.int (dep + (1 : Int32))), (.ref bf)])) _
    refine st9 _ ?_
    show Steps p.tables e below (T9.setTop (mkF m 52 #[.val (.ref xa)] [])) _
    exact X9.returnOut hx Bd.returns (hb hby d_prog_131_method_3_52) hr
  · show Q_open Z xa ic cl cv hc fc cnt dep h0 n0 _ T9.heap _
    rw [e9]
    exact ⟨rfl, N9, ⟨bi, bl, bv, bh, bf, Ex9_xa, F9_innermostCount, F9_countLabel, F9_countValue, F9_hiddenCount, F9_firstCount, F9_counts, F9_depth, A9_bi, A9_bl, A9_bv, A9_bh, A9_bf, ⟨ne01, ne02, ne03, ne04, ne12, ne13, ne14, ne23, ne24, ne34⟩, ⟨ga, g0, g1, g2, g3, g4⟩⟩⟩
theorem d_prog_131_method_5_0 : decode prog_131_method_5_code 0 = .ok (.aload_n 0, 1) := by decide +kernel
theorem d_prog_131_method_5_1 : decode prog_131_method_5_code 1 = .ok (.getfield 49, 3) := by decide +kernel
theorem d_prog_131_method_5_4 : decode prog_131_method_5_code 4 = .ok (.aload_n 0, 1) := by decide +kernel
theorem d_prog_131_method_5_5 : decode prog_131_method_5_code 5 = .ok (.getfield 13, 3) := by decide +kernel
theorem d_prog_131_method_5_8 : decode prog_131_method_5_code 8 = .ok (.arraylength, 1) := by decide +kernel
theorem d_prog_131_method_5_9 : decode prog_131_method_5_code 9 = .ok (.if_icmp .ne 46, 3) := by decide +kernel
theorem d_prog_131_method_5_55 : decode prog_131_method_5_code 55 = .ok (.aload_n 0, 1) := by decide +kernel
theorem d_prog_131_method_5_56 : decode prog_131_method_5_code 56 = .ok (.getfield 13, 3) := by decide +kernel
theorem d_prog_131_method_5_59 : decode prog_131_method_5_code 59 = .ok (.aload_n 0, 1) := by decide +kernel
theorem d_prog_131_method_5_60 : decode prog_131_method_5_code 60 = .ok (.getfield 49, 3) := by decide +kernel
theorem d_prog_131_method_5_63 : decode prog_131_method_5_code 63 = .ok (.iload_n 1, 1) := by decide +kernel
theorem d_prog_131_method_5_64 : decode prog_131_method_5_code 64 = .ok (.iastore, 1) := by decide +kernel
theorem d_prog_131_method_5_65 : decode prog_131_method_5_code 65 = .ok (.aload_n 0, 1) := by decide +kernel
theorem d_prog_131_method_5_66 : decode prog_131_method_5_code 66 = .ok (.getfield 16, 3) := by decide +kernel
theorem d_prog_131_method_5_69 : decode prog_131_method_5_code 69 = .ok (.aload_n 0, 1) := by decide +kernel
theorem d_prog_131_method_5_70 : decode prog_131_method_5_code 70 = .ok (.getfield 49, 3) := by decide +kernel
theorem d_prog_131_method_5_73 : decode prog_131_method_5_code 73 = .ok (.iconst 1, 1) := by decide +kernel
theorem d_prog_131_method_5_74 : decode prog_131_method_5_code 74 = .ok (.iastore, 1) := by decide +kernel
theorem d_prog_131_method_5_75 : decode prog_131_method_5_code 75 = .ok (.aload_n 0, 1) := by decide +kernel
theorem d_prog_131_method_5_76 : decode prog_131_method_5_code 76 = .ok (.getfield 19, 3) := by decide +kernel
theorem d_prog_131_method_5_79 : decode prog_131_method_5_code 79 = .ok (.aload_n 0, 1) := by decide +kernel
theorem d_prog_131_method_5_80 : decode prog_131_method_5_code 80 = .ok (.getfield 49, 3) := by decide +kernel
theorem d_prog_131_method_5_83 : decode prog_131_method_5_code 83 = .ok (.aload_n 0, 1) := by decide +kernel
theorem d_prog_131_method_5_84 : decode prog_131_method_5_code 84 = .ok (.getfield 7, 3) := by decide +kernel
theorem d_prog_131_method_5_87 : decode prog_131_method_5_code 87 = .ok (.iload_n 1, 1) := by decide +kernel
theorem d_prog_131_method_5_88 : decode prog_131_method_5_code 88 = .ok (.iaload, 1) := by decide +kernel
theorem d_prog_131_method_5_89 : decode prog_131_method_5_code 89 = .ok (.iastore, 1) := by decide +kernel
theorem d_prog_131_method_5_90 : decode prog_131_method_5_code 90 = .ok (.aload_n 0, 1) := by decide +kernel
theorem d_prog_131_method_5_91 : decode prog_131_method_5_code 91 = .ok (.getfield 7, 3) := by decide +kernel
theorem d_prog_131_method_5_94 : decode prog_131_method_5_code 94 = .ok (.iload_n 1, 1) := by decide +kernel
theorem d_prog_131_method_5_95 : decode prog_131_method_5_code 95 = .ok (.aload_n 0, 1) := by decide +kernel
theorem d_prog_131_method_5_96 : decode prog_131_method_5_code 96 = .ok (.getfield 49, 3) := by decide +kernel
theorem d_prog_131_method_5_99 : decode prog_131_method_5_code 99 = .ok (.iastore, 1) := by decide +kernel
theorem d_prog_131_method_5_100 : decode prog_131_method_5_code 100 = .ok (.aload_n 0, 1) := by decide +kernel
theorem d_prog_131_method_5_101 : decode prog_131_method_5_code 101 = .ok (.dup, 1) := by decide +kernel
theorem d_prog_131_method_5_102 : decode prog_131_method_5_code 102 = .ok (.getfield 49, 3) := by decide +kernel
theorem d_prog_131_method_5_105 : decode prog_131_method_5_code 105 = .ok (.iconst 1, 1) := by decide +kernel
theorem d_prog_131_method_5_106 : decode prog_131_method_5_code 106 = .ok (.iadd, 1) := by decide +kernel
theorem d_prog_131_method_5_107 : decode prog_131_method_5_code 107 = .ok (.putfield 49, 3) := by decide +kernel
theorem d_prog_131_method_5_110 : decode prog_131_method_5_code 110 = .ok (.return_, 1) := by decide +kernel
theorem ef_push (m : MethodId) (xa : Addr) (xl : Int32) : entryFrame m #[(.ref xa), (.int xl)] 3 = mkF m 0 #[.val (.ref xa), .val (.int xl), .unset] [] := by first | (simp [entryFrame, mkF, argsToLocals, Value.category]; done) | rfl
def Q_push (Z : State) (xa : Addr) (xl : Int32) (ic : List Int32) (cl : List Int32) (cv : List Int32) (hc : List Int32) (fc : List Int32) (cnt : Int32) (dep : Int32) (h0 : Heap) (n0 : Nat) (v : Option Value) (h : Heap) (L : List Loc) : Prop := v = none ∧ Fr n0 L ∧ SPs Z n0 h xa (pushS (ic, cl, cv, hc, fc, cnt, dep) xl)
set_option maxRecDepth 65536 in
set_option maxHeartbeats 40000000 in
theorem rm_push (l : Launch) (Z : State) (a0 : Array Value) (hw : ∀ d ∈ tables_1, d.before a0 Z = true) (ws : List Jvm.Cond) (xa : Addr) (xl : Int32) (ic : List Int32) (cl : List Int32) (cv : List Int32) (hc : List Int32) (fc : List Int32) (cnt : Int32) (dep : Int32) (h0 : Heap) (n0 : Nat) (Z0 : n0 ≤ h0.size) (hS : SP Z n0 h0 xa ic cl cv hc fc cnt dep) (hok : pushOk (ic, cl, cv, hc, fc, cnt, dep) xl = true) :
    MetFree l (⟨"com/example/orsay/orsay/SiblingPositions", "push", "(I)V"⟩ : MethodName) (head1 (Jvm.Cond.code (⟨"com/example/orsay/orsay/SiblingPositions", "push", "(I)V"⟩ : MethodName) prog_131_method_5_code 3 none :: ws) ({ frames := 0, cells := 0, slots := 0, locals := 0 } : Room)) (fun a U => a = #[(.ref xa), (.int xl)] ∧ Z.Warmed39 U.vm ∧ U.heap = h0) (fun _ _ _ _ _ => True) (fun _ U o U' => ∃ v L, o = .returned v ∧ Q_push Z xa xl ic cl cv hc fc cnt dep h0 n0 v U'.heap L ∧ FrameEnd U o U' L ({ frames := 0, cells := 0, slots := 0, locals := 0 } : Room).cells ({ frames := 0, cells := 0, slots := 0, locals := 0 } : Room).slots) := by
  refine MetFree.of_bodySF (plainFor_of_name pn_1) hisR ?_
  intro p e s m args below meth c s₁ Bd hml0 hP hK
  obtain ⟨rfl, hZ, hh⟩ := hP
  have hx := Bd.exec
  have hby := Bd.bytes
  have hml : c.maxLocals = 3 := hml0
  have hown : s.vm.findClass "com/example/orsay/orsay/SiblingPositions" = some m.cls := findClass_of_methodNamed Bd.named
  have hnm := (name_of_methodNamed Bd.named Bd.method).1
  have X0 : Stand p l e ({ frames := 0, cells := 0, slots := 0, locals := 0 } : Room) s m #[(.ref xa), (.int xl)] below meth c s₁ [] 0 0 := Stand.of_body Bd
  have e0 : s₁.heap = h0 := by rw [← hh, Bd.state]; rfl
  have N0 := Fr.nil n0
  have pre0 : ∀ t, Steps p.tables e below (s₁.setTop (mkF m 0 #[.val (.ref xa), .val (.int xl), .unset] [])) t → Steps p.tables e below (s₁.setTop (entryFrame m #[(.ref xa), (.int xl)] 3)) t := fun t k => castTop (ef_push m xa xl) k
  obtain ⟨bi, bl, bv, bh, bf, Ex, Fi, Fl, Fv, Fh, Ff, Fc, Fd, Ai, Al, Av, Ah, Af, ⟨ne01, ne02, ne03, ne04, ne12, ne13, ne14, ne23, ne24, ne34⟩, ⟨ga, g0, g1, g2, g3, g4⟩⟩ := id hS
  obtain ⟨o1, o2, o3, o4, o5⟩ : (¬ cnt = Int32.ofNat cl.length) ∧ inR cl cnt = true ∧ inR cv cnt = true ∧ inR hc cnt = true ∧ inR ic xl = true := by simpa only [pushOk, Bool.and_eq_true, decide_eq_true_eq] using hok
  obtain ⟨T1, X1, e1, st1⟩ := getF X0 hx hZ hown (host := "") (Or.inl (hw _ (List.mem_of_getElem? (i := 52) rfl))) Via.refl e0 Fc (g := (mkF m 1 #[.val (.ref xa), .val (.int xl), .unset] [(.ref xa)])) rfl rfl (hb hby d_prog_131_method_5_1)
  obtain ⟨T2, X2, e2, st2⟩ := getF X1 hx hZ hown (host := "") (Or.inl (hw _ (List.mem_of_getElem? (i := 12) rfl))) Via.refl e1 Fl (g := (mkF m 5 #[.val (.ref xa), .val (.int xl), .unset] [(.ref xa), (.int cnt)])) rfl rfl (hb hby d_prog_131_method_5_5)
  obtain ⟨cl3, Ar3, ln3⟩ := Al.ln
  obtain ⟨T4, X4, e4, st4⟩ := getF X2 hx hZ hown (host := "") (Or.inl (hw _ (List.mem_of_getElem? (i := 12) rfl))) Via.refl e2 Fl (g := (mkF m 56 #[.val (.ref xa), .val (.int xl), .unset] [(.ref xa)])) rfl rfl (hb hby d_prog_131_method_5_56)
  obtain ⟨T5, X5, e5, st5⟩ := getF X4 hx hZ hown (host := "") (Or.inl (hw _ (List.mem_of_getElem? (i := 52) rfl))) Via.refl e4 Fc (g := (mkF m 60 #[.val (.ref xa), .val (.int xl), .unset] [(.ref xa), (.ref bl)])) rfl rfl (hb hby d_prog_131_method_5_60)
  obtain ⟨cl6, Ar6, hin6, -, u6⟩ := Al.rd (j := cnt) o2
  obtain ⟨T6, h6, X6, e6, W6, st6⟩ := stI X5 hx hZ e5 Ar6 (j := cnt) hin6 (g := (mkF m 64 #[.val (.ref xa), .val (.int xl), .unset] [(.int xl), (.int cnt), (.ref bl)])) rfl rfl (hb hby d_prog_131_method_5_64)
  have F6_innermostCount := Fi.other W6 (Or.inl (Al.neE Ex (hw _ (List.mem_of_getElem? (i := 1) rfl))))
  have F6_countLabel := Fl.other W6 (Or.inl (Al.neE Ex (hw _ (List.mem_of_getElem? (i := 1) rfl))))
  have F6_countValue := Fv.other W6 (Or.inl (Al.neE Ex (hw _ (List.mem_of_getElem? (i := 1) rfl))))
  have F6_hiddenCount := Fh.other W6 (Or.inl (Al.neE Ex (hw _ (List.mem_of_getElem? (i := 1) rfl))))
  have F6_firstCount := Ff.other W6 (Or.inl (Al.neE Ex (hw _ (List.mem_of_getElem? (i := 1) rfl))))
  have F6_counts := Fc.other W6 (Or.inl (Al.neE Ex (hw _ (List.mem_of_getElem? (i := 1) rfl))))
  have F6_depth := Fd.other W6 (Or.inl (Al.neE Ex (hw _ (List.mem_of_getElem? (i := 1) rfl))))
  have Ex6_xa := Ex.wr W6
  have A6_bi := Ai.other W6 ne01
  have A6_bl := u6 _ _ W6
  have A6_bv := Av.other W6 (Ne.symm ne12)
  have A6_bh := Ah.other W6 (Ne.symm ne13)
  have A6_bf := Af.other W6 (Ne.symm ne14)
  have N6 := Fr.snoc X6 N0 g1
  obtain ⟨T7, X7, e7, st7⟩ := getF X6 hx hZ hown (host := "") (Or.inl (hw _ (List.mem_of_getElem? (i := 14) rfl))) Via.refl e6 F6_countValue (g := (mkF m 66 #[.val (.ref xa), .val (.int xl), .unset] [(.ref xa)])) rfl rfl (hb hby d_prog_131_method_5_66)
  obtain ⟨T8, X8, e8, st8⟩ := getF X7 hx hZ hown (host := "") (Or.inl (hw _ (List.mem_of_getElem? (i := 52) rfl))) Via.refl e7 F6_counts (g := (mkF m 70 #[.val (.ref xa), .val (.int xl), .unset] [(.ref xa), (.ref bv)])) rfl rfl (hb hby d_prog_131_method_5_70)
  obtain ⟨cl9, Ar9, hin9, -, u9⟩ := A6_bv.rd (j := cnt) o3
  obtain ⟨T9, h9, X9, e9, W9, st9⟩ := stI X8 hx hZ e8 Ar9 (j := cnt) hin9 (g := (mkF m 74 #[.val (.ref xa), .val (.int xl), .unset] [(.int (1 : Int32)), (.int cnt), (.ref bv)])) rfl rfl (hb hby d_prog_131_method_5_74)
  have F9_innermostCount := F6_innermostCount.other W9 (Or.inl (A6_bv.neE Ex6_xa (hw _ (List.mem_of_getElem? (i := 1) rfl))))
  have F9_countLabel := F6_countLabel.other W9 (Or.inl (A6_bv.neE Ex6_xa (hw _ (List.mem_of_getElem? (i := 1) rfl))))
  have F9_countValue := F6_countValue.other W9 (Or.inl (A6_bv.neE Ex6_xa (hw _ (List.mem_of_getElem? (i := 1) rfl))))
  have F9_hiddenCount := F6_hiddenCount.other W9 (Or.inl (A6_bv.neE Ex6_xa (hw _ (List.mem_of_getElem? (i := 1) rfl))))
  have F9_firstCount := F6_firstCount.other W9 (Or.inl (A6_bv.neE Ex6_xa (hw _ (List.mem_of_getElem? (i := 1) rfl))))
  have F9_counts := F6_counts.other W9 (Or.inl (A6_bv.neE Ex6_xa (hw _ (List.mem_of_getElem? (i := 1) rfl))))
  have F9_depth := F6_depth.other W9 (Or.inl (A6_bv.neE Ex6_xa (hw _ (List.mem_of_getElem? (i := 1) rfl))))
  have Ex9_xa := Ex6_xa.wr W9
  have A9_bi := A6_bi.other W9 ne02
  have A9_bl := A6_bl.other W9 ne12
  have A9_bv := u9 _ _ W9
  have A9_bh := A6_bh.other W9 (Ne.symm ne23)
  have A9_bf := A6_bf.other W9 (Ne.symm ne24)
  have N9 := Fr.snoc X9 N6 g2
  obtain ⟨T10, X10, e10, st10⟩ := getF X9 hx hZ hown (host := "") (Or.inl (hw _ (List.mem_of_getElem? (i := 16) rfl))) Via.refl e9 F9_hiddenCount (g := (mkF m 76 #[.val (.ref xa), .val (.int xl), .unset] [(.ref xa)])) rfl rfl (hb hby d_prog_131_method_5_76)
  obtain ⟨T11, X11, e11, st11⟩ := getF X10 hx hZ hown (host := "") (Or.inl (hw _ (List.mem_of_getElem? (i := 52) rfl))) Via.refl e10 F9_counts (g := (mkF m 80 #[.val (.ref xa), .val (.int xl), .unset] [(.ref xa), (.ref bh)])) rfl rfl (hb hby d_prog_131_method_5_80)
  obtain ⟨T12, X12, e12, st12⟩ := getF X11 hx hZ hown (host := "") (Or.inl (hw _ (List.mem_of_getElem? (i := 10) rfl))) Via.refl e11 F9_innermostCount (g := (mkF m 84 #[.val (.ref xa), .val (.int xl), .unset] [(.ref xa), (.int cnt), (.ref bh)])) rfl rfl (hb hby d_prog_131_method_5_84)
  obtain ⟨cl13, Ar13, hin13, hat13, -⟩ := A9_bi.rd (j := xl) o5
  obtain ⟨cl14, Ar14, hin14, -, u14⟩ := A9_bh.rd (j := cnt) o4
  obtain ⟨T14, h14, X14, e14, W14, st14⟩ := stI X12 hx hZ e12 Ar14 (j := cnt) hin14 (g := (mkF m 89 #[.val (.ref xa), .val (.int xl), .unset] [(.int (gI ic xl)), (.int cnt), (.ref bh)])) rfl rfl (hb hby d_prog_131_method_5_89)
  have F14_innermostCount := F9_innermostCount.other W14 (Or.inl (A9_bh.neE Ex9_xa (hw _ (List.mem_of_getElem? (i := 1) rfl))))
  have F14_countLabel := F9_countLabel.other W14 (Or.inl (A9_bh.neE Ex9_xa (hw _ (List.mem_of_getElem? (i := 1) rfl))))
  have F14_countValue := F9_countValue.other W14 (Or.inl (A9_bh.neE Ex9_xa (hw _ (List.mem_of_getElem? (i := 1) rfl))))
  have F14_hiddenCount := F9_hiddenCount.other W14 (Or.inl (A9_bh.neE Ex9_xa (hw _ (List.mem_of_getElem? (i := 1) rfl))))
  have F14_firstCount := F9_firstCount.other W14 (Or.inl (A9_bh.neE Ex9_xa (hw _ (List.mem_of_getElem? (i := 1) rfl))))
  have F14_counts := F9_counts.other W14 (Or.inl (A9_bh.neE Ex9_xa (hw _ (List.mem_of_getElem? (i := 1) rfl))))
  have F14_depth := F9_depth.other W14 (Or.inl (A9_bh.neE Ex9_xa (hw _ (List.mem_of_getElem? (i := 1) rfl))))
  have Ex14_xa := Ex9_xa.wr W14
  have A14_bi := A9_bi.other W14 ne03
  have A14_bl := A9_bl.other W14 ne13
  have A14_bv := A9_bv.other W14 ne23
  have A14_bh := u14 _ _ W14
  have A14_bf := A9_bf.other W14 (Ne.symm ne34)
  have N14 := Fr.snoc X14 N9 g3
  obtain ⟨T15, X15, e15, st15⟩ := getF X14 hx hZ hown (host := "") (Or.inl (hw _ (List.mem_of_getElem? (i := 10) rfl))) Via.refl e14 F14_innermostCount (g := (mkF m 91 #[.val (.ref xa), .val (.int xl), .unset] [(.ref xa)])) rfl rfl (hb hby d_prog_131_method_5_91)
  obtain ⟨T16, X16, e16, st16⟩ := getF X15 hx hZ hown (host := "") (Or.inl (hw _ (List.mem_of_getElem? (i := 52) rfl))) Via.refl e15 F14_counts (g := (mkF m 96 #[.val (.ref xa), .val (.int xl), .unset] [(.ref xa), (.int xl), (.ref bi)])) rfl rfl (hb hby d_prog_131_method_5_96)
  obtain ⟨cl17, Ar17, hin17, -, u17⟩ := A14_bi.rd (j := xl) o5
  obtain ⟨T17, h17, X17, e17, W17, st17⟩ := stI X16 hx hZ e16 Ar17 (j := xl) hin17 (g := (mkF m 99 #[.val (.ref xa), .val (.int xl), .unset] [(.int cnt), (.int xl), (.ref bi)])) rfl rfl (hb hby d_prog_131_method_5_99)
  have F17_innermostCount := F14_innermostCount.other W17 (Or.inl (A14_bi.neE Ex14_xa (hw _ (List.mem_of_getElem? (i := 1) rfl))))
  have F17_countLabel := F14_countLabel.other W17 (Or.inl (A14_bi.neE Ex14_xa (hw _ (List.mem_of_getElem? (i := 1) rfl))))
  have F17_countValue := F14_countValue.other W17 (Or.inl (A14_bi.neE Ex14_xa (hw _ (List.mem_of_getElem? (i := 1) rfl))))
  have F17_hiddenCount := F14_hiddenCount.other W17 (Or.inl (A14_bi.neE Ex14_xa (hw _ (List.mem_of_getElem? (i := 1) rfl))))
  have F17_firstCount := F14_firstCount.other W17 (Or.inl (A14_bi.neE Ex14_xa (hw _ (List.mem_of_getElem? (i := 1) rfl))))
  have F17_counts := F14_counts.other W17 (Or.inl (A14_bi.neE Ex14_xa (hw _ (List.mem_of_getElem? (i := 1) rfl))))
  have F17_depth := F14_depth.other W17 (Or.inl (A14_bi.neE Ex14_xa (hw _ (List.mem_of_getElem? (i := 1) rfl))))
  have Ex17_xa := Ex14_xa.wr W17
  have A17_bi := u17 _ _ W17
  have A17_bl := A14_bl.other W17 (Ne.symm ne01)
  have A17_bv := A14_bv.other W17 (Ne.symm ne02)
  have A17_bh := A14_bh.other W17 (Ne.symm ne03)
  have A17_bf := A14_bf.other W17 (Ne.symm ne04)
  have N17 := Fr.snoc X17 N14 g0
  obtain ⟨T18, X18, e18, st18⟩ := getF X17 hx hZ hown (host := "") (Or.inl (hw _ (List.mem_of_getElem? (i := 52) rfl))) Via.refl e17 F17_counts (g := (mkF m 102 #[.val (.ref xa), .val (.int xl), .unset] [(.ref xa), (.ref xa)])) rfl rfl (hb hby d_prog_131_method_5_102)
  obtain ⟨T19, h19, X19, e19, W19, st19⟩ := putF X18 hx hZ hown (host := "") (Or.inl (hw _ (List.mem_of_getElem? (i := 52) rfl))) Via.refl e18 F17_counts Ex17_xa (Or.inl (hw _ (List.mem_of_getElem? (i := 53) rfl))) (hw _ (List.mem_of_getElem? (i := 1) rfl)) (ty := .int) (by decide) rfl rfl (g := (mkF m 107 #[.val (.ref xa), .val (.int xl), .unset] [(.int (cnt + (1 : Int32))), (.ref xa)])) rfl rfl (hb hby d_prog_131_method_5_107)
  have F19_innermostCount := F17_innermostCount.other W19 (Or.inr (slot_ne (Or.inl (hw _ (List.mem_of_getElem? (i := 11) rfl))) (Or.inl (hw _ (List.mem_of_getElem? (i := 53) rfl))) (by decide) (t := (.array .int)) (t' := .int) (by decide) (by decide)))
  have F19_countLabel := F17_countLabel.other W19 (Or.inr (slot_ne (Or.inl (hw _ (List.mem_of_getElem? (i := 13) rfl))) (Or.inl (hw _ (List.mem_of_getElem? (i := 53) rfl))) (by decide) (t := (.array .int)) (t' := .int) (by decide) (by decide)))
  have F19_countValue := F17_countValue.other W19 (Or.inr (slot_ne (Or.inl (hw _ (List.mem_of_getElem? (i := 15) rfl))) (Or.inl (hw _ (List.mem_of_getElem? (i := 53) rfl))) (by decide) (t := (.array .int)) (t' := .int) (by decide) (by decide)))
  have F19_hiddenCount := F17_hiddenCount.other W19 (Or.inr (slot_ne (Or.inl (hw _ (List.mem_of_getElem? (i := 17) rfl))) (Or.inl (hw _ (List.mem_of_getElem? (i := 53) rfl))) (by decide) (t := (.array .int)) (t' := .int) (by decide) (by decide)))
  have F19_firstCount := F17_firstCount.other W19 (Or.inr (slot_ne (Or.inl (hw _ (List.mem_of_getElem? (i := 19) rfl))) (Or.inl (hw _ (List.mem_of_getElem? (i := 53) rfl))) (by decide) (t := (.array .int)) (t' := .int) (by decide) (by decide)))
  have F19_counts := F17_counts.same W19
  have F19_depth := F17_depth.other W19 (Or.inr (slot_ne (Or.inl (hw _ (List.mem_of_getElem? (i := 47) rfl))) (Or.inl (hw _ (List.mem_of_getElem? (i := 53) rfl))) (by decide) (t := .int) (t' := .int) (by decide) (by decide)))
  have Ex19_xa := Ex17_xa.wr W19
  have A19_bi := A17_bi.other W19 (Ne.symm (A17_bi.neE Ex17_xa (hw _ (List.mem_of_getElem? (i := 1) rfl))))
  have A19_bl := A17_bl.other W19 (Ne.symm (A17_bl.neE Ex17_xa (hw _ (List.mem_of_getElem? (i := 1) rfl))))
  have A19_bv := A17_bv.other W19 (Ne.symm (A17_bv.neE Ex17_xa (hw _ (List.mem_of_getElem? (i := 1) rfl))))
  have A19_bh := A17_bh.other W19 (Ne.symm (A17_bh.neE Ex17_xa (hw _ (List.mem_of_getElem? (i := 1) rfl))))
  have A19_bf := A17_bf.other W19 (Ne.symm (A17_bf.neE Ex17_xa (hw _ (List.mem_of_getElem? (i := 1) rfl))))
  have N19 := Fr.snoc X19 N17 ga
  obtain ⟨fs, hr, hrun, hended, hW, hsame⟩ := X19.leave (v := none) (fun _ => rfl)
  refine ⟨_, _, pre0 _ ?_, hrun, hended, _, _, rfl, ?_, ⟨_, rfl⟩, hW, hsame.mono (by decide) (by decide)⟩
  · show Steps p.tables e below (s₁.setTop (mkF m 0 #[.val (.ref xa), .val (.int xl), .unset] [])) _
    refine XS.aloadN X0.here hx rfl (hb hby d_prog_131_method_5_0) rfl rfl ?_
    show Steps p.tables e below (s₁.setTop (mkF m 1 #[.val (.ref xa), .val (.int xl), .unset] [(.ref xa)])) _
    refine st1 _ ?_
    show Steps p.tables e below (T1.setTop (mkF m 4 #[.val (.ref xa), .val (.int xl), .unset] [(.int cnt)])) _
    refine XS.aloadN X1.here hx rfl (hb hby d_prog_131_method_5_4) rfl rfl ?_
    show Steps p.tables e below (T1.setTop (mkF m 5 #[.val (.ref xa), .val (.int xl), .unset] [(.ref xa), (.int cnt)])) _
    refine st2 _ ?_
    show Steps p.tables e below (T2.setTop (mkF m 8 #[.val (.ref xa), .val (.int xl), .unset] [(.ref bl), (.int cnt)])) _
    refine X2.arraylength hx (by rw [e2]; exact Ar3.1) (State.isArrayOf_alike hZ.alike Ar3.2.1) (g := (mkF m 8 #[.val (.ref xa), .val (.int xl), .unset] [(.ref bl), (.int cnt)])) rfl rfl (hb hby d_prog_131_method_5_8) _ ?_
    rw [ln3]
    show Steps p.tables e below (T2.setTop (mkF m 9 #[.val (.ref xa), .val (.int xl), .unset] [(.int (Int32.ofNat cl.length)), (.int cnt)])) _
    refine XS.icmpYes X2.here hx rfl (pc0 := 9) (pc' := 55) rfl (hb hby d_prog_131_method_5_9) rfl (feq o1).2 (by decide) (by decide) ?_
    show Steps p.tables e below (T2.setTop (mkF m 55 #[.val (.ref xa), .val (.int xl), .unset] [])) _
    refine XS.aloadN X2.here hx rfl (hb hby d_prog_131_method_5_55) rfl rfl ?_
    show Steps p.tables e below (T2.setTop (mkF m 56 #[.val (.ref xa), .val (.int xl), .unset] [(.ref xa)])) _
    refine st4 _ ?_
    show Steps p.tables e below (T4.setTop (mkF m 59 #[.val (.ref xa), .val (.int xl), .unset] [(.ref bl)])) _
    refine XS.aloadN X4.here hx rfl (hb hby d_prog_131_method_5_59) rfl rfl ?_
    show Steps p.tables e below (T4.setTop (mkF m 60 #[.val (.ref xa), .val (.int xl), .unset] [(.ref xa), (.ref bl)])) _
    refine st5 _ ?_
    show Steps p.tables e below (T5.setTop (mkF m 63 #[.val (.ref xa), .val (.int xl), .unset] [(.int cnt), (.ref bl)])) _
    refine XS.iloadN X5.here hx rfl (hb hby d_prog_131_method_5_63) rfl ?_
    show Steps p.tables e below (T5.setTop (mkF m 64 #[.val (.ref xa), .val (.int xl), .unset] [(.int xl), (.int cnt), (.ref bl)])) _
    refine st6 _ ?_
    show Steps p.tables e below (T6.setTop (mkF m 65 #[.val (.ref xa), .val (.int xl), .unset] [])) _
    refine XS.aloadN X6.here hx rfl (hb hby d_prog_131_method_5_65) rfl rfl ?_
    show Steps p.tables e below (T6.setTop (mkF m 66 #[.val (.ref xa), .val (.int xl), .unset] [(.ref xa)])) _
    refine st7 _ ?_
    show Steps p.tables e below (T7.setTop (mkF m 69 #[.val (.ref xa), .val (.int xl), .unset] [(.ref bv)])) _
    refine XS.aloadN X7.here hx rfl (hb hby d_prog_131_method_5_69) rfl rfl ?_
    show Steps p.tables e below (T7.setTop (mkF m 70 #[.val (.ref xa), .val (.int xl), .unset] [(.ref xa), (.ref bv)])) _
    refine st8 _ ?_
    show Steps p.tables e below (T8.setTop (mkF m 73 #[.val (.ref xa), .val (.int xl), .unset] [(.int cnt), (.ref bv)])) _
    refine XS.iconst X8.here hx rfl (hb hby d_prog_131_method_5_73) ?_
    show Steps p.tables e below (T8.setTop (mkF m 74 #[.val (.ref xa), .val (.int xl), .unset] [(.int (1 : Int32)), (.int cnt), (.ref bv)])) _
    refine st9 _ ?_
    show Steps p.tables e below (T9.setTop (mkF m 75 #[.val (.ref xa), .val (.int xl), .unset] [])) _
    refine XS.aloadN X9.here hx rfl (hb hby d_prog_131_method_5_75) rfl rfl ?_
    show Steps p.tables e below (T9.setTop (mkF m 76 #[.val (.ref xa), .val (.int xl), .unset] [(.ref xa)])) _
    refine st10 _ ?_
    show Steps p.tables e below (T10.setTop (mkF m 79 #[.val (.ref xa), .val (.int xl), .unset] [(.ref bh)])) _
    refine XS.aloadN X10.here hx rfl (hb hby d_prog_131_method_5_79) rfl rfl ?_
    show Steps p.tables e below (T10.setTop (mkF m 80 #[.val (.ref xa), .val (.int xl), .unset] [(.ref xa), (.ref bh)])) _
    refine st11 _ ?_
    show Steps p.tables e below (T11.setTop (mkF m 83 #[.val (.ref xa), .val (.int xl), .unset] [(.int cnt), (.ref bh)])) _
    refine XS.aloadN X11.here hx rfl (hb hby d_prog_131_method_5_83) rfl rfl ?_
    show Steps p.tables e below (T11.setTop (mkF m 84 #[.val (.ref xa), .val (.int xl), .unset] [(.ref xa), (.int cnt), (.ref bh)])) _
    refine st12 _ ?_
    show Steps p.tables e below (T12.setTop (mkF m 87 #[.val (.ref xa), .val (.int xl), .unset] [(.ref bi), (.int cnt), (.ref bh)])) _
    refine XS.iloadN X12.here hx rfl (hb hby d_prog_131_method_5_87) rfl ?_
    show Steps p.tables e below (T12.setTop (mkF m 88 #[.val (.ref xa), .val (.int xl), .unset] [(.int xl), (.ref bi), (.int cnt), (.ref bh)])) _
    refine X12.iaload hx (j := xl) (v := (.int (gI ic xl))) (by rw [e12]; exact Ar13.1) (State.isArrayOf_alike hZ.alike Ar13.2.1) Ar13.2.2 hin13 hat13 (g := (mkF m 88 #[.val (.ref xa), .val (.int xl), .unset] [(.int xl), (.ref bi), (.int cnt), (.ref bh)])) rfl rfl (hb hby d_prog_131_method_5_88) _ ?_
    show Steps p.tables e below (T12.setTop (mkF m 89 #[.val (.ref xa), .val (.int xl), .unset] [(.int (gI ic xl)), (.int cnt), (.ref bh)])) _
    refine st14 _ ?_
    show Steps p.tables e below (T14.setTop (mkF m 90 #[.val (.ref xa), .val (.int xl), .unset] [])) _
    refine XS.aloadN X14.here hx rfl (hb hby d_prog_131_method_5_90) rfl rfl ?_
    show Steps p.tables e below (T14.setTop (mkF m 91 #[.val (.ref xa), .val (.int xl), .unset] [(.ref xa)])) _
    refine st15 _ ?_
    show Steps p.tables e below (T15.setTop (mkF m 94 #[.val (.ref xa), .val (.int xl), .unset] [(.ref bi)])) _
    refine XS.iloadN X15.here hx rfl (hb hby d_prog_131_method_5_94) rfl ?_
    show Steps p.tables e below (T15.setTop (mkF m 95 #[.val (.ref xa), .val (.int xl), .unset] [(.int xl), (.ref bi)])) _
    refine XS.aloadN X15.here hx rfl (hb hby d_prog_131_method_5_95) rfl rfl ?_
    show Steps p.tables e below (T15.setTop (mkF m 96 #[.val (.ref xa), .val (.int xl), .unset] [(.ref xa), (.int xl), (.ref bi)])) _
    refine st16 _ ?_
    show Steps p.tables e below (T16.setTop (mkF m 99 #[.val (.ref xa), .val (.int xl), .unset] [(.int cnt), (.int xl), (.ref bi)])) _
    refine st17 _ ?_
    show Steps p.tables e below (T17.setTop (mkF m 100 #[.val (.ref xa), .val (.int xl), .unset] [])) _
    refine XS.aloadN X17.here hx rfl (hb hby d_prog_131_method_5_100) rfl rfl ?_
    show Steps p.tables e below (T17.setTop (mkF m 101 #[.val (.ref xa), .val (.int xl), .unset] [(.ref xa)])) _
    refine XS.dup X17.here hx rfl (hb hby d_prog_131_method_5_101) rfl rfl ?_
    show Steps p.tables e below (T17.setTop (mkF m 102 #[.val (.ref xa), .val (.int xl), .unset] [(.ref xa), (.ref xa)])) _
    refine st18 _ ?_
    show Steps p.tables e below (T18.setTop (mkF m 105 #[.val (.ref xa), .val (.int xl), .unset] [(.int cnt), (.ref xa)])) _
    refine XS.iconst X18.here hx rfl (hb hby d_prog_131_method_5_105) ?_
    show Steps p.tables e below (T18.setTop (mkF m 106 #[.val (.ref xa), .val (.int xl), .unset] [(.int (1 : Int32)), (.int cnt), (.ref xa)])) _
    refine XS.iadd X18.here hx rfl (hb hby d_prog_131_method_5_106) rfl ?_
    show Steps p.tables e below (T18.setTop (mkF m 107 #[.val (.ref xa), .val (.int xl), .unset] [(.int (cnt + (1 : Int32))), (.ref xa)])) _
    refine st19 _ ?_
    show Steps p.tables e below (T19.setTop (mkF m 110 #[.val (.ref xa), .val (.int xl), .unset] [])) _
    exact X19.returnOut hx Bd.returns (hb hby d_prog_131_method_5_110) hr
  · show Q_push Z xa xl ic cl cv hc fc cnt dep h0 n0 _ T19.heap _
    rw [e19]
    exact ⟨rfl, N19, ⟨bi, bl, bv, bh, bf, Ex19_xa, F19_innermostCount, F19_countLabel, F19_countValue, F19_hiddenCount, F19_firstCount, F19_counts, F19_depth, A19_bi, A19_bl, A19_bv, A19_bh, A19_bf, ⟨ne01, ne02, ne03, ne04, ne12, ne13, ne14, ne23, ne24, ne34⟩, ⟨ga, g0, g1, g2, g3, g4⟩⟩⟩
theorem d_prog_131_method_1_0 : decode prog_131_method_1_code 0 = .ok (.aload_n 0, 1) := by decide +kernel
theorem d_prog_131_method_1_1 : decode prog_131_method_1_code 1 = .ok (.invokespecial 1, 3) := by decide +kernel
theorem d_prog_131_method_1_4 : decode prog_131_method_1_code 4 = .ok (.aload_n 0, 1) := by decide +kernel
theorem d_prog_131_method_1_5 : decode prog_131_method_1_code 5 = .ok (.iconst 0, 1) := by decide +kernel
theorem d_prog_131_method_1_6 : decode prog_131_method_1_code 6 = .ok (.newarray .int, 2) := by decide +kernel
theorem d_prog_131_method_1_8 : decode prog_131_method_1_code 8 = .ok (.putfield 7, 3) := by decide +kernel
theorem d_prog_131_method_1_11 : decode prog_131_method_1_code 11 = .ok (.aload_n 0, 1) := by decide +kernel
theorem d_prog_131_method_1_12 : decode prog_131_method_1_code 12 = .ok (.bipush 16, 2) := by decide +kernel
theorem d_prog_131_method_1_14 : decode prog_131_method_1_code 14 = .ok (.newarray .int, 2) := by decide +kernel
theorem d_prog_131_method_1_16 : decode prog_131_method_1_code 16 = .ok (.putfield 13, 3) := by decide +kernel
theorem d_prog_131_method_1_19 : decode prog_131_method_1_code 19 = .ok (.aload_n 0, 1) := by decide +kernel
theorem d_prog_131_method_1_20 : decode prog_131_method_1_code 20 = .ok (.bipush 16, 2) := by decide +kernel
theorem d_prog_131_method_1_22 : decode prog_131_method_1_code 22 = .ok (.newarray .int, 2) := by decide +kernel
theorem d_prog_131_method_1_24 : decode prog_131_method_1_code 24 = .ok (.putfield 16, 3) := by decide +kernel
theorem d_prog_131_method_1_27 : decode prog_131_method_1_code 27 = .ok (.aload_n 0, 1) := by decide +kernel
theorem d_prog_131_method_1_28 : decode prog_131_method_1_code 28 = .ok (.bipush 16, 2) := by decide +kernel
theorem d_prog_131_method_1_30 : decode prog_131_method_1_code 30 = .ok (.newarray .int, 2) := by decide +kernel
theorem d_prog_131_method_1_32 : decode prog_131_method_1_code 32 = .ok (.putfield 19, 3) := by decide +kernel
theorem d_prog_131_method_1_35 : decode prog_131_method_1_code 35 = .ok (.aload_n 0, 1) := by decide +kernel
theorem d_prog_131_method_1_36 : decode prog_131_method_1_code 36 = .ok (.bipush 16, 2) := by decide +kernel
theorem d_prog_131_method_1_38 : decode prog_131_method_1_code 38 = .ok (.newarray .int, 2) := by decide +kernel
theorem d_prog_131_method_1_40 : decode prog_131_method_1_code 40 = .ok (.putfield 22, 3) := by decide +kernel
theorem d_prog_131_method_1_43 : decode prog_131_method_1_code 43 = .ok (.return_, 1) := by decide +kernel
theorem ef_init (m : MethodId) (xa : Addr) : entryFrame m #[(.ref xa)] 1 = mkF m 0 #[.val (.ref xa)] [] := by first | (simp [entryFrame, mkF, argsToLocals, Value.category]; done) | rfl
def Q_init (Z : State) (xa : Addr) (h0 : Heap) (n0 : Nat) (v : Option Value) (h : Heap) (L : List Loc) : Prop := v = none ∧ Fr n0 L ∧ SPs Z n0 h xa initS
set_option maxRecDepth 65536 in
set_option maxHeartbeats 40000000 in
theorem rm_init (l : Launch) (Z : State) (a0 : Array Value) (hw : ∀ d ∈ tables_1, d.before a0 Z = true) (ws : List Jvm.Cond) (xa : Addr) (h0 : Heap) (n0 : Nat) (Z0 : n0 ≤ h0.size) (Ex : Exa Z h0 xa "com/example/orsay/orsay/SiblingPositions") (ga : n0 ≤ xa) (F0 : Fld Z h0 xa "com/example/orsay/orsay/SiblingPositions" "innermostCount" "[I" .null) (F1 : Fld Z h0 xa "com/example/orsay/orsay/SiblingPositions" "countLabel" "[I" .null) (F2 : Fld Z h0 xa "com/example/orsay/orsay/SiblingPositions" "countValue" "[I" .null) (F3 : Fld Z h0 xa "com/example/orsay/orsay/SiblingPositions" "hiddenCount" "[I" .null) (F4 : Fld Z h0 xa "com/example/orsay/orsay/SiblingPositions" "firstCount" "[I" .null) (Fc : Fld Z h0 xa "com/example/orsay/orsay/SiblingPositions" "counts" "I" (.int (0 : Int32))) (Fd : Fld Z h0 xa "com/example/orsay/orsay/SiblingPositions" "depth" "I" (.int (0 : Int32))) :
    MetFree l (⟨"com/example/orsay/orsay/SiblingPositions", "<init>", "()V"⟩ : MethodName) (head1 (Jvm.Cond.code (⟨"com/example/orsay/orsay/SiblingPositions", "<init>", "()V"⟩ : MethodName) prog_131_method_1_code 1 none :: ws) ({ frames := 1, cells := 5, slots := 64, locals := 12 } : Room)) (fun a U => a = #[(.ref xa)] ∧ Z.Warmed39 U.vm ∧ U.heap = h0) (fun _ _ _ _ _ => True) (fun _ U o U' => ∃ v L, o = .returned v ∧ Q_init Z xa h0 n0 v U'.heap L ∧ FrameEnd U o U' L ({ frames := 1, cells := 5, slots := 64, locals := 12 } : Room).cells ({ frames := 1, cells := 5, slots := 64, locals := 12 } : Room).slots) := by
  refine MetFree.of_bodySF (plainFor_of_name pn_1) hisR ?_
  intro p e s m args below meth c s₁ Bd hml0 hP hK
  obtain ⟨rfl, hZ, hh⟩ := hP
  have hx := Bd.exec
  have hby := Bd.bytes
  have hml : c.maxLocals = 1 := hml0
  have hown : s.vm.findClass "com/example/orsay/orsay/SiblingPositions" = some m.cls := findClass_of_methodNamed Bd.named
  have hnm := (name_of_methodNamed Bd.named Bd.method).1
  have X0 : Stand p l e ({ frames := 1, cells := 5, slots := 64, locals := 12 } : Room) s m #[(.ref xa)] below meth c s₁ [] 0 0 := Stand.of_body Bd
  have e0 : s₁.heap = h0 := by rw [← hh, Bd.state]; rfl
  have N0 := Fr.nil n0
  have pre0 : ∀ t, Steps p.tables e below (s₁.setTop (mkF m 0 #[.val (.ref xa)] [])) t → Steps p.tables e below (s₁.setTop (entryFrame m #[(.ref xa)] 1)) t := fun t k => castTop (ef_init m xa) k
  obtain ⟨T1, X1, e1, st1⟩ := initO X0 hx hZ hown (hw _ (List.mem_of_getElem? (i := 6) rfl)) (hw _ (List.mem_of_getElem? (i := 7) rfl)) (hw _ (List.mem_of_getElem? (i := 8) rfl)) e0 (g := (mkF m 1 #[.val (.ref xa)] [(.ref xa)])) rfl (by rw [hml]; rfl) rfl (hb hby d_prog_131_method_1_1) (by decide) (W := 0) (by show 2 * 0 + _ ≤ _; exact Nat.le_of_eq rfl) (by decide)
  obtain ⟨T2, h2, k2, X2, e2, E2, A2, st2⟩ := newP X1 hx hZ (hw _ (List.mem_of_getElem? (i := 9) rfl)) e1 (g := (mkF m 6 #[.val (.ref xa)] [(.int (0 : Int32)), (.ref xa)])) rfl (hb hby d_prog_131_method_1_6) rfl (by decide) (cap := 0) (by decide) (by decide) (by decide) (by decide)
  obtain ⟨b2, g2⟩ : ∃ z, z = h0.size := ⟨_, rfl⟩
  rw [← g2] at A2 st2
  have g_b2 : n0 ≤ b2 := Nat.le_trans Z0 (Nat.le_of_eq g2.symm)
  have F2_innermostCount := F0.ext E2
  have F2_countLabel := F1.ext E2
  have F2_countValue := F2.ext E2
  have F2_hiddenCount := F3.ext E2
  have F2_firstCount := F4.ext E2
  have F2_counts := Fc.ext E2
  have F2_depth := Fd.ext E2
  have Ex2_xa := Ex.ext E2
  have V_b2 : IA Z h2 b2 (List.replicate 0 0) := IA.new 0 A2 (by decide) rfl
  obtain ⟨T3, h3, X3, e3, W3, st3⟩ := putF X2 hx hZ hown (host := "") (Or.inl (hw _ (List.mem_of_getElem? (i := 10) rfl))) Via.refl e2 F2_innermostCount Ex2_xa (Or.inl (hw _ (List.mem_of_getElem? (i := 11) rfl))) (hw _ (List.mem_of_getElem? (i := 1) rfl)) (ty := (.array .int)) (by decide) rfl rfl (g := (mkF m 8 #[.val (.ref xa)] [(.ref b2), (.ref xa)])) rfl rfl (hb hby d_prog_131_method_1_8)
  have F3_innermostCount := F2_innermostCount.same W3
  have F3_countLabel := F2_countLabel.other W3 (Or.inr (slot_ne (Or.inl (hw _ (List.mem_of_getElem? (i := 13) rfl))) (Or.inl (hw _ (List.mem_of_getElem? (i := 11) rfl))) (by decide) (t := (.array .int)) (t' := (.array .int)) (by decide) (by decide)))
  have F3_countValue := F2_countValue.other W3 (Or.inr (slot_ne (Or.inl (hw _ (List.mem_of_getElem? (i := 15) rfl))) (Or.inl (hw _ (List.mem_of_getElem? (i := 11) rfl))) (by decide) (t := (.array .int)) (t' := (.array .int)) (by decide) (by decide)))
  have F3_hiddenCount := F2_hiddenCount.other W3 (Or.inr (slot_ne (Or.inl (hw _ (List.mem_of_getElem? (i := 17) rfl))) (Or.inl (hw _ (List.mem_of_getElem? (i := 11) rfl))) (by decide) (t := (.array .int)) (t' := (.array .int)) (by decide) (by decide)))
  have F3_firstCount := F2_firstCount.other W3 (Or.inr (slot_ne (Or.inl (hw _ (List.mem_of_getElem? (i := 19) rfl))) (Or.inl (hw _ (List.mem_of_getElem? (i := 11) rfl))) (by decide) (t := (.array .int)) (t' := (.array .int)) (by decide) (by decide)))
  have F3_counts := F2_counts.other W3 (Or.inr (slot_ne (Or.inl (hw _ (List.mem_of_getElem? (i := 53) rfl))) (Or.inl (hw _ (List.mem_of_getElem? (i := 11) rfl))) (by decide) (t := .int) (t' := (.array .int)) (by decide) (by decide)))
  have F3_depth := F2_depth.other W3 (Or.inr (slot_ne (Or.inl (hw _ (List.mem_of_getElem? (i := 47) rfl))) (Or.inl (hw _ (List.mem_of_getElem? (i := 11) rfl))) (by decide) (t := .int) (t' := (.array .int)) (by decide) (by decide)))
  have Ex3_xa := Ex2_xa.wr W3
  have A3_b2 := V_b2.other W3 (Ne.symm (V_b2.neE Ex2_xa (hw _ (List.mem_of_getElem? (i := 1) rfl))))
  have N3 := Fr.snoc X3 N0 ga
  obtain ⟨T4, h4, k4, X4, e4, E4, A4, st4⟩ := newP X3 hx hZ (hw _ (List.mem_of_getElem? (i := 9) rfl)) e3 (g := (mkF m 14 #[.val (.ref xa)] [(.int (16 : Int32)), (.ref xa)])) rfl (hb hby d_prog_131_method_1_14) rfl (by decide) (cap := 16) (by decide) (by decide) (by decide) (by decide)
  obtain ⟨b4, g4⟩ : ∃ z, z = h3.size := ⟨_, rfl⟩
  rw [← g4] at A4 st4
  have g_b4 : n0 ≤ b4 := Nat.le_trans (Nat.le_trans (Nat.le_trans Z0 E2.1) (Keep.of_wr W3).1) (Nat.le_of_eq g4.symm)
  have ne_b2_b4 : b2 ≠ b4 := Nat.ne_of_lt (Nat.lt_of_lt_of_le A3_b2.lt (Nat.le_of_eq g4.symm))
  have F4_innermostCount := F3_innermostCount.ext E4
  have F4_countLabel := F3_countLabel.ext E4
  have F4_countValue := F3_countValue.ext E4
  have F4_hiddenCount := F3_hiddenCount.ext E4
  have F4_firstCount := F3_firstCount.ext E4
  have F4_counts := F3_counts.ext E4
  have F4_depth := F3_depth.ext E4
  have Ex4_xa := Ex3_xa.ext E4
  have A4_b2 := A3_b2.ext E4
  have V_b4 : IA Z h4 b4 (List.replicate 16 0) := IA.new 16 A4 (by decide) rfl
  obtain ⟨T5, h5, X5, e5, W5, st5⟩ := putF X4 hx hZ hown (host := "") (Or.inl (hw _ (List.mem_of_getElem? (i := 12) rfl))) Via.refl e4 F4_countLabel Ex4_xa (Or.inl (hw _ (List.mem_of_getElem? (i := 13) rfl))) (hw _ (List.mem_of_getElem? (i := 1) rfl)) (ty := (.array .int)) (by decide) rfl rfl (g := (mkF m 16 #[.val (.ref xa)] [(.ref b4), (.ref xa)])) rfl rfl (hb hby d_prog_131_method_1_16)
  have F5_innermostCount := F4_innermostCount.other W5 (Or.inr (slot_ne (Or.inl (hw _ (List.mem_of_getElem? (i := 11) rfl))) (Or.inl (hw _ (List.mem_of_getElem? (i := 13) rfl))) (by decide) (t := (.array .int)) (t' := (.array .int)) (by decide) (by decide)))
  have F5_countLabel := F4_countLabel.same W5
  have F5_countValue := F4_countValue.other W5 (Or.inr (slot_ne (Or.inl (hw _ (List.mem_of_getElem? (i := 15) rfl))) (Or.inl (hw _ (List.mem_of_getElem? (i := 13) rfl))) (by decide) (t := (.array .int)) (t' := (.array .int)) (by decide) (by decide)))
  have F5_hiddenCount := F4_hiddenCount.other W5 (Or.inr (slot_ne (Or.inl (hw _ (List.mem_of_getElem? (i := 17) rfl))) (Or.inl (hw _ (List.mem_of_getElem? (i := 13) rfl))) (by decide) (t := (.array .int)) (t' := (.array .int)) (by decide) (by decide)))
  have F5_firstCount := F4_firstCount.other W5 (Or.inr (slot_ne (Or.inl (hw _ (List.mem_of_getElem? (i := 19) rfl))) (Or.inl (hw _ (List.mem_of_getElem? (i := 13) rfl))) (by decide) (t := (.array .int)) (t' := (.array .int)) (by decide) (by decide)))
  have F5_counts := F4_counts.other W5 (Or.inr (slot_ne (Or.inl (hw _ (List.mem_of_getElem? (i := 53) rfl))) (Or.inl (hw _ (List.mem_of_getElem? (i := 13) rfl))) (by decide) (t := .int) (t' := (.array .int)) (by decide) (by decide)))
  have F5_depth := F4_depth.other W5 (Or.inr (slot_ne (Or.inl (hw _ (List.mem_of_getElem? (i := 47) rfl))) (Or.inl (hw _ (List.mem_of_getElem? (i := 13) rfl))) (by decide) (t := .int) (t' := (.array .int)) (by decide) (by decide)))
  have Ex5_xa := Ex4_xa.wr W5
  have A5_b2 := A4_b2.other W5 (Ne.symm (A4_b2.neE Ex4_xa (hw _ (List.mem_of_getElem? (i := 1) rfl))))
  have A5_b4 := V_b4.other W5 (Ne.symm (V_b4.neE Ex4_xa (hw _ (List.mem_of_getElem? (i := 1) rfl))))
  have N5 := Fr.snoc X5 N3 ga
  obtain ⟨T6, h6, k6, X6, e6, E6, A6, st6⟩ := newP X5 hx hZ (hw _ (List.mem_of_getElem? (i := 9) rfl)) e5 (g := (mkF m 22 #[.val (.ref xa)] [(.int (16 : Int32)), (.ref xa)])) rfl (hb hby d_prog_131_method_1_22) rfl (by decide) (cap := 16) (by decide) (by decide) (by decide) (by decide)
  obtain ⟨b6, g6⟩ : ∃ z, z = h5.size := ⟨_, rfl⟩
  rw [← g6] at A6 st6
  have g_b6 : n0 ≤ b6 := Nat.le_trans (Nat.le_trans (Nat.le_trans (Nat.le_trans (Nat.le_trans Z0 E2.1) (Keep.of_wr W3).1) E4.1) (Keep.of_wr W5).1) (Nat.le_of_eq g6.symm)
  have ne_b2_b6 : b2 ≠ b6 := Nat.ne_of_lt (Nat.lt_of_lt_of_le A5_b2.lt (Nat.le_of_eq g6.symm))
  have ne_b4_b6 : b4 ≠ b6 := Nat.ne_of_lt (Nat.lt_of_lt_of_le A5_b4.lt (Nat.le_of_eq g6.symm))
  have F6_innermostCount := F5_innermostCount.ext E6
  have F6_countLabel := F5_countLabel.ext E6
  have F6_countValue := F5_countValue.ext E6
  have F6_hiddenCount := F5_hiddenCount.ext E6
  have F6_firstCount := F5_firstCount.ext E6
  have F6_counts := F5_counts.ext E6
  have F6_depth := F5_depth.ext E6
  have Ex6_xa := Ex5_xa.ext E6
  have A6_b2 := A5_b2.ext E6
  have A6_b4 := A5_b4.ext E6
  have V_b6 : IA Z h6 b6 (List.replicate 16 0) := IA.new 16 A6 (by decide) rfl
  obtain ⟨T7, h7, X7, e7, W7, st7⟩ := putF X6 hx hZ hown (host := "") (Or.inl (hw _ (List.mem_of_getElem? (i := 14) rfl))) Via.refl e6 F6_countValue Ex6_xa (Or.inl (hw _ (List.mem_of_getElem? (i := 15) rfl))) (hw _ (List.mem_of_getElem? (i := 1) rfl)) (ty := (.array .int)) (by decide) rfl rfl (g := (mkF m 24 #[.val (.ref xa)] [(.ref b6), (.ref xa)])) rfl rfl (hb hby d_prog_131_method_1_24)
  have F7_innermostCount := F6_innermostCount.other W7 (Or.inr (slot_ne (Or.inl (hw _ (List.mem_of_getElem? (i := 11) rfl))) (Or.inl (hw _ (List.mem_of_getElem? (i := 15) rfl))) (by decide) (t := (.array .int)) (t' := (.array .int)) (by decide) (by decide)))
  have F7_countLabel := F6_countLabel.other W7 (Or.inr (slot_ne (Or.inl (hw _ (List.mem_of_getElem? (i := 13) rfl))) (Or.inl (hw _ (List.mem_of_getElem? (i := 15) rfl))) (by decide) (t := (.array .int)) (t' := (.array .int)) (by decide) (by decide)))
  have F7_countValue := F6_countValue.same W7
  have F7_hiddenCount := F6_hiddenCount.other W7 (Or.inr (slot_ne (Or.inl (hw _ (List.mem_of_getElem? (i := 17) rfl))) (Or.inl (hw _ (List.mem_of_getElem? (i := 15) rfl))) (by decide) (t := (.array .int)) (t' := (.array .int)) (by decide) (by decide)))
  have F7_firstCount := F6_firstCount.other W7 (Or.inr (slot_ne (Or.inl (hw _ (List.mem_of_getElem? (i := 19) rfl))) (Or.inl (hw _ (List.mem_of_getElem? (i := 15) rfl))) (by decide) (t := (.array .int)) (t' := (.array .int)) (by decide) (by decide)))
  have F7_counts := F6_counts.other W7 (Or.inr (slot_ne (Or.inl (hw _ (List.mem_of_getElem? (i := 53) rfl))) (Or.inl (hw _ (List.mem_of_getElem? (i := 15) rfl))) (by decide) (t := .int) (t' := (.array .int)) (by decide) (by decide)))
  have F7_depth := F6_depth.other W7 (Or.inr (slot_ne (Or.inl (hw _ (List.mem_of_getElem? (i := 47) rfl))) (Or.inl (hw _ (List.mem_of_getElem? (i := 15) rfl))) (by decide) (t := .int) (t' := (.array .int)) (by decide) (by decide)))
  have Ex7_xa := Ex6_xa.wr W7
  have A7_b2 := A6_b2.other W7 (Ne.symm (A6_b2.neE Ex6_xa (hw _ (List.mem_of_getElem? (i := 1) rfl))))
  have A7_b4 := A6_b4.other W7 (Ne.symm (A6_b4.neE Ex6_xa (hw _ (List.mem_of_getElem? (i := 1) rfl))))
  have A7_b6 := V_b6.other W7 (Ne.symm (V_b6.neE Ex6_xa (hw _ (List.mem_of_getElem? (i := 1) rfl))))
  have N7 := Fr.snoc X7 N5 ga
  obtain ⟨T8, h8, k8, X8, e8, E8, A8, st8⟩ := newP X7 hx hZ (hw _ (List.mem_of_getElem? (i := 9) rfl)) e7 (g := (mkF m 30 #[.val (.ref xa)] [(.int (16 : Int32)), (.ref xa)])) rfl (hb hby d_prog_131_method_1_30) rfl (by decide) (cap := 16) (by decide) (by decide) (by decide) (by decide)
  obtain ⟨b8, g8⟩ : ∃ z, z = h7.size := ⟨_, rfl⟩
  rw [← g8] at A8 st8
  have g_b8 : n0 ≤ b8 := Nat.le_trans (Nat.le_trans (Nat.le_trans (Nat.le_trans (Nat.le_trans (Nat.le_trans (Nat.le_trans Z0 E2.1) (Keep.of_wr W3).1) E4.1) (Keep.of_wr W5).1) E6.1) (Keep.of_wr W7).1) (Nat.le_of_eq g8.symm)
  have ne_b2_b8 : b2 ≠ b8 := Nat.ne_of_lt (Nat.lt_of_lt_of_le A7_b2.lt (Nat.le_of_eq g8.symm))
  have ne_b4_b8 : b4 ≠ b8 := Nat.ne_of_lt (Nat.lt_of_lt_of_le A7_b4.lt (Nat.le_of_eq g8.symm))
  have ne_b6_b8 : b6 ≠ b8 := Nat.ne_of_lt (Nat.lt_of_lt_of_le A7_b6.lt (Nat.le_of_eq g8.symm))
  have F8_innermostCount := F7_innermostCount.ext E8
  have F8_countLabel := F7_countLabel.ext E8
  have F8_countValue := F7_countValue.ext E8
  have F8_hiddenCount := F7_hiddenCount.ext E8
  have F8_firstCount := F7_firstCount.ext E8
  have F8_counts := F7_counts.ext E8
  have F8_depth := F7_depth.ext E8
  have Ex8_xa := Ex7_xa.ext E8
  have A8_b2 := A7_b2.ext E8
  have A8_b4 := A7_b4.ext E8
  have A8_b6 := A7_b6.ext E8
  have V_b8 : IA Z h8 b8 (List.replicate 16 0) := IA.new 16 A8 (by decide) rfl
  obtain ⟨T9, h9, X9, e9, W9, st9⟩ := putF X8 hx hZ hown (host := "") (Or.inl (hw _ (List.mem_of_getElem? (i := 16) rfl))) Via.refl e8 F8_hiddenCount Ex8_xa (Or.inl (hw _ (List.mem_of_getElem? (i := 17) rfl))) (hw _ (List.mem_of_getElem? (i := 1) rfl)) (ty := (.array .int)) (by decide) rfl rfl (g := (mkF m 32 #[.val (.ref xa)] [(.ref b8), (.ref xa)])) rfl rfl (hb hby d_prog_131_method_1_32)
  have F9_innermostCount := F8_innermostCount.other W9 (Or.inr (slot_ne (Or.inl (hw _ (List.mem_of_getElem? (i := 11) rfl))) (Or.inl (hw _ (List.mem_of_getElem? (i := 17) rfl))) (by decide) (t := (.array .int)) (t' := (.array .int)) (by decide) (by decide)))
  have F9_countLabel := F8_countLabel.other W9 (Or.inr (slot_ne (Or.inl (hw _ (List.mem_of_getElem? (i := 13) rfl))) (Or.inl (hw _ (List.mem_of_getElem? (i := 17) rfl))) (by decide) (t := (.array .int)) (t' := (.array .int)) (by decide) (by decide)))
  have F9_countValue := F8_countValue.other W9 (Or.inr (slot_ne (Or.inl (hw _ (List.mem_of_getElem? (i := 15) rfl))) (Or.inl (hw _ (List.mem_of_getElem? (i := 17) rfl))) (by decide) (t := (.array .int)) (t' := (.array .int)) (by decide) (by decide)))
  have F9_hiddenCount := F8_hiddenCount.same W9
  have F9_firstCount := F8_firstCount.other W9 (Or.inr (slot_ne (Or.inl (hw _ (List.mem_of_getElem? (i := 19) rfl))) (Or.inl (hw _ (List.mem_of_getElem? (i := 17) rfl))) (by decide) (t := (.array .int)) (t' := (.array .int)) (by decide) (by decide)))
  have F9_counts := F8_counts.other W9 (Or.inr (slot_ne (Or.inl (hw _ (List.mem_of_getElem? (i := 53) rfl))) (Or.inl (hw _ (List.mem_of_getElem? (i := 17) rfl))) (by decide) (t := .int) (t' := (.array .int)) (by decide) (by decide)))
  have F9_depth := F8_depth.other W9 (Or.inr (slot_ne (Or.inl (hw _ (List.mem_of_getElem? (i := 47) rfl))) (Or.inl (hw _ (List.mem_of_getElem? (i := 17) rfl))) (by decide) (t := .int) (t' := (.array .int)) (by decide) (by decide)))
  have Ex9_xa := Ex8_xa.wr W9
  have A9_b2 := A8_b2.other W9 (Ne.symm (A8_b2.neE Ex8_xa (hw _ (List.mem_of_getElem? (i := 1) rfl))))
  have A9_b4 := A8_b4.other W9 (Ne.symm (A8_b4.neE Ex8_xa (hw _ (List.mem_of_getElem? (i := 1) rfl))))
  have A9_b6 := A8_b6.other W9 (Ne.symm (A8_b6.neE Ex8_xa (hw _ (List.mem_of_getElem? (i := 1) rfl))))
  have A9_b8 := V_b8.other W9 (Ne.symm (V_b8.neE Ex8_xa (hw _ (List.mem_of_getElem? (i := 1) rfl))))
  have N9 := Fr.snoc X9 N7 ga
  obtain ⟨T10, h10, k10, X10, e10, E10, A10, st10⟩ := newP X9 hx hZ (hw _ (List.mem_of_getElem? (i := 9) rfl)) e9 (g := (mkF m 38 #[.val (.ref xa)] [(.int (16 : Int32)), (.ref xa)])) rfl (hb hby d_prog_131_method_1_38) rfl (by decide) (cap := 16) (by decide) (by decide) (by decide) (by decide)
  obtain ⟨b10, g10⟩ : ∃ z, z = h9.size := ⟨_, rfl⟩
  rw [← g10] at A10 st10
  have g_b10 : n0 ≤ b10 := Nat.le_trans (Nat.le_trans (Nat.le_trans (Nat.le_trans (Nat.le_trans (Nat.le_trans (Nat.le_trans (Nat.le_trans (Nat.le_trans Z0 E2.1) (Keep.of_wr W3).1) E4.1) (Keep.of_wr W5).1) E6.1) (Keep.of_wr W7).1) E8.1) (Keep.of_wr W9).1) (Nat.le_of_eq g10.symm)
  have ne_b2_b10 : b2 ≠ b10 := Nat.ne_of_lt (Nat.lt_of_lt_of_le A9_b2.lt (Nat.le_of_eq g10.symm))
  have ne_b4_b10 : b4 ≠ b10 := Nat.ne_of_lt (Nat.lt_of_lt_of_le A9_b4.lt (Nat.le_of_eq g10.symm))
  have ne_b6_b10 : b6 ≠ b10 := Nat.ne_of_lt (Nat.lt_of_lt_of_le A9_b6.lt (Nat.le_of_eq g10.symm))
  have ne_b8_b10 : b8 ≠ b10 := Nat.ne_of_lt (Nat.lt_of_lt_of_le A9_b8.lt (Nat.le_of_eq g10.symm))
  have F10_innermostCount := F9_innermostCount.ext E10
  have F10_countLabel := F9_countLabel.ext E10
  have F10_countValue := F9_countValue.ext E10
  have F10_hiddenCount := F9_hiddenCount.ext E10
  have F10_firstCount := F9_firstCount.ext E10
  have F10_counts := F9_counts.ext E10
  have F10_depth := F9_depth.ext E10
  have Ex10_xa := Ex9_xa.ext E10
  have A10_b2 := A9_b2.ext E10
  have A10_b4 := A9_b4.ext E10
  have A10_b6 := A9_b6.ext E10
  have A10_b8 := A9_b8.ext E10
  have V_b10 : IA Z h10 b10 (List.replicate 16 0) := IA.new 16 A10 (by decide) rfl
  obtain ⟨T11, h11, X11, e11, W11, st11⟩ := putF X10 hx hZ hown (host := "") (Or.inl (hw _ (List.mem_of_getElem? (i := 18) rfl))) Via.refl e10 F10_firstCount Ex10_xa (Or.inl (hw _ (List.mem_of_getElem? (i := 19) rfl))) (hw _ (List.mem_of_getElem? (i := 1) rfl)) (ty := (.array .int)) (by decide) rfl rfl (g := (mkF m 40 #[.val (.ref xa)] [(.ref b10), (.ref xa)])) rfl rfl (hb hby d_prog_131_method_1_40)
  have F11_innermostCount := F10_innermostCount.other W11 (Or.inr (slot_ne (Or.inl (hw _ (List.mem_of_getElem? (i := 11) rfl))) (Or.inl (hw _ (List.mem_of_getElem? (i := 19) rfl))) (by decide) (t := (.array .int)) (t' := (.array .int)) (by decide) (by decide)))
  have F11_countLabel := F10_countLabel.other W11 (Or.inr (slot_ne (Or.inl (hw _ (List.mem_of_getElem? (i := 13) rfl))) (Or.inl (hw _ (List.mem_of_getElem? (i := 19) rfl))) (by decide) (t := (.array .int)) (t' := (.array .int)) (by decide) (by decide)))
  have F11_countValue := F10_countValue.other W11 (Or.inr (slot_ne (Or.inl (hw _ (List.mem_of_getElem? (i := 15) rfl))) (Or.inl (hw _ (List.mem_of_getElem? (i := 19) rfl))) (by decide) (t := (.array .int)) (t' := (.array .int)) (by decide) (by decide)))
  have F11_hiddenCount := F10_hiddenCount.other W11 (Or.inr (slot_ne (Or.inl (hw _ (List.mem_of_getElem? (i := 17) rfl))) (Or.inl (hw _ (List.mem_of_getElem? (i := 19) rfl))) (by decide) (t := (.array .int)) (t' := (.array .int)) (by decide) (by decide)))
  have F11_firstCount := F10_firstCount.same W11
  have F11_counts := F10_counts.other W11 (Or.inr (slot_ne (Or.inl (hw _ (List.mem_of_getElem? (i := 53) rfl))) (Or.inl (hw _ (List.mem_of_getElem? (i := 19) rfl))) (by decide) (t := .int) (t' := (.array .int)) (by decide) (by decide)))
  have F11_depth := F10_depth.other W11 (Or.inr (slot_ne (Or.inl (hw _ (List.mem_of_getElem? (i := 47) rfl))) (Or.inl (hw _ (List.mem_of_getElem? (i := 19) rfl))) (by decide) (t := .int) (t' := (.array .int)) (by decide) (by decide)))
  have Ex11_xa := Ex10_xa.wr W11
  have A11_b2 := A10_b2.other W11 (Ne.symm (A10_b2.neE Ex10_xa (hw _ (List.mem_of_getElem? (i := 1) rfl))))
  have A11_b4 := A10_b4.other W11 (Ne.symm (A10_b4.neE Ex10_xa (hw _ (List.mem_of_getElem? (i := 1) rfl))))
  have A11_b6 := A10_b6.other W11 (Ne.symm (A10_b6.neE Ex10_xa (hw _ (List.mem_of_getElem? (i := 1) rfl))))
  have A11_b8 := A10_b8.other W11 (Ne.symm (A10_b8.neE Ex10_xa (hw _ (List.mem_of_getElem? (i := 1) rfl))))
  have A11_b10 := V_b10.other W11 (Ne.symm (V_b10.neE Ex10_xa (hw _ (List.mem_of_getElem? (i := 1) rfl))))
  have N11 := Fr.snoc X11 N9 ga
  obtain ⟨fs, hr, hrun, hended, hW, hsame⟩ := X11.leave (v := none) (fun _ => rfl)
  refine ⟨_, _, pre0 _ ?_, hrun, hended, _, _, rfl, ?_, ⟨_, rfl⟩, hW, hsame.mono (by decide) (by decide)⟩
  · show Steps p.tables e below (s₁.setTop (mkF m 0 #[.val (.ref xa)] [])) _
    refine XS.aloadN X0.here hx rfl (hb hby d_prog_131_method_1_0) rfl rfl ?_
    show Steps p.tables e below (s₁.setTop (mkF m 1 #[.val (.ref xa)] [(.ref xa)])) _
    refine st1 _ ?_
    show Steps p.tables e below (T1.setTop (mkF m 4 #[.val (.ref xa)] [])) _
    refine XS.aloadN X1.here hx rfl (hb hby d_prog_131_method_1_4) rfl rfl ?_
    show Steps p.tables e below (T1.setTop (mkF m 5 #[.val (.ref xa)] [(.ref xa)])) _
    refine XS.iconst X1.here hx rfl (hb hby d_prog_131_method_1_5) ?_
    show Steps p.tables e below (T1.setTop (mkF m 6 #[.val (.ref xa)] [(.int (0 : Int32)), (.ref xa)])) _
    refine st2 _ ?_
    show Steps p.tables e below (T2.setTop (mkF m 8 #[.val (.ref xa)] [(.ref b2), (.ref xa)])) _
    refine st3 _ ?_
    show Steps p.tables e below (T3.setTop (mkF m 11 #[.val (.ref xa)] [])) _
    refine XS.aloadN X3.here hx rfl (hb hby d_prog_131_method_1_11) rfl rfl ?_
    show Steps p.tables e below (T3.setTop (mkF m 12 #[.val (.ref xa)] [(.ref xa)])) _
    refine XS.bipush X3.here hx rfl (hb hby d_prog_131_method_1_12) ?_
    show Steps p.tables e below (T3.setTop (mkF m 14 #[.val (.ref xa)] [(.int (16 : Int32)), (.ref xa)])) _
    refine st4 _ ?_
    show Steps p.tables e below (T4.setTop (mkF m 16 #[.val (.ref xa)] [(.ref b4), (.ref xa)])) _
    refine st5 _ ?_
    show Steps p.tables e below (T5.setTop (mkF m 19 #[.val (.ref xa)] [])) _
    refine XS.aloadN X5.here hx rfl (hb hby d_prog_131_method_1_19) rfl rfl ?_
    show Steps p.tables e below (T5.setTop (mkF m 20 #[.val (.ref xa)] [(.ref xa)])) _
    refine XS.bipush X5.here hx rfl (hb hby d_prog_131_method_1_20) ?_
    show Steps p.tables e below (T5.setTop (mkF m 22 #[.val (.ref xa)] [(.int (16 : Int32)), (.ref xa)])) _
    refine st6 _ ?_
    show Steps p.tables e below (T6.setTop (mkF m 24 #[.val (.ref xa)] [(.ref b6), (.ref xa)])) _
    refine st7 _ ?_
    show Steps p.tables e below (T7.setTop (mkF m 27 #[.val (.ref xa)] [])) _
    refine XS.aloadN X7.here hx rfl (hb hby d_prog_131_method_1_27) rfl rfl ?_
    show Steps p.tables e below (T7.setTop (mkF m 28 #[.val (.ref xa)] [(.ref xa)])) _
    refine XS.bipush X7.here hx rfl (hb hby d_prog_131_method_1_28) ?_
    show Steps p.tables e below (T7.setTop (mkF m 30 #[.val (.ref xa)] [(.int (16 : Int32)), (.ref xa)])) _
    refine st8 _ ?_
    show Steps p.tables e below (T8.setTop (mkF m 32 #[.val (.ref xa)] [(.ref b8), (.ref xa)])) _
    refine st9 _ ?_
    show Steps p.tables e below (T9.setTop (mkF m 35 #[.val (.ref xa)] [])) _
    refine XS.aloadN X9.here hx rfl (hb hby d_prog_131_method_1_35) rfl rfl ?_
    show Steps p.tables e below (T9.setTop (mkF m 36 #[.val (.ref xa)] [(.ref xa)])) _
    refine XS.bipush X9.here hx rfl (hb hby d_prog_131_method_1_36) ?_
    show Steps p.tables e below (T9.setTop (mkF m 38 #[.val (.ref xa)] [(.int (16 : Int32)), (.ref xa)])) _
    refine st10 _ ?_
    show Steps p.tables e below (T10.setTop (mkF m 40 #[.val (.ref xa)] [(.ref b10), (.ref xa)])) _
    refine st11 _ ?_
    show Steps p.tables e below (T11.setTop (mkF m 43 #[.val (.ref xa)] [])) _
    exact X11.returnOut hx Bd.returns (hb hby d_prog_131_method_1_43) hr
  · show Q_init Z xa h0 n0 _ T11.heap _
    rw [e11]
    exact ⟨rfl, N11, ⟨b2, b4, b6, b8, b10, Ex11_xa, F11_innermostCount, F11_countLabel, F11_countValue, F11_hiddenCount, F11_firstCount, F11_counts, F11_depth, A11_b2, A11_b4, A11_b6, A11_b8, A11_b10, ⟨ne_b2_b4, ne_b2_b6, ne_b2_b8, ne_b2_b10, ne_b4_b6, ne_b4_b8, ne_b4_b10, ne_b6_b8, ne_b6_b10, ne_b8_b10⟩, ⟨ga, g_b2, g_b4, g_b6, g_b8, g_b10⟩⟩⟩
theorem d_prog_131_method_4_0 : decode prog_131_method_4_code 0 = .ok (.aload_n 0, 1) := by decide +kernel
theorem d_prog_131_method_4_1 : decode prog_131_method_4_code 1 = .ok (.getfield 49, 3) := by decide +kernel
theorem d_prog_131_method_4_4 : decode prog_131_method_4_code 4 = .ok (.aload_n 0, 1) := by decide +kernel
theorem d_prog_131_method_4_5 : decode prog_131_method_4_code 5 = .ok (.getfield 22, 3) := by decide +kernel
theorem d_prog_131_method_4_8 : decode prog_131_method_4_code 8 = .ok (.aload_n 0, 1) := by decide +kernel
theorem d_prog_131_method_4_9 : decode prog_131_method_4_code 9 = .ok (.getfield 41, 3) := by decide +kernel
theorem d_prog_131_method_4_12 : decode prog_131_method_4_code 12 = .ok (.iaload, 1) := by decide +kernel
theorem d_prog_131_method_4_13 : decode prog_131_method_4_code 13 = .ok (.if_icmp .le 39, 3) := by decide +kernel
theorem d_prog_131_method_4_16 : decode prog_131_method_4_code 16 = .ok (.aload_n 0, 1) := by decide +kernel
theorem d_prog_131_method_4_17 : decode prog_131_method_4_code 17 = .ok (.dup, 1) := by decide +kernel
theorem d_prog_131_method_4_18 : decode prog_131_method_4_code 18 = .ok (.getfield 49, 3) := by decide +kernel
theorem d_prog_131_method_4_21 : decode prog_131_method_4_code 21 = .ok (.iconst 1, 1) := by decide +kernel
theorem d_prog_131_method_4_22 : decode prog_131_method_4_code 22 = .ok (.isub, 1) := by decide +kernel
theorem d_prog_131_method_4_23 : decode prog_131_method_4_code 23 = .ok (.putfield 49, 3) := by decide +kernel
theorem d_prog_131_method_4_26 : decode prog_131_method_4_code 26 = .ok (.aload_n 0, 1) := by decide +kernel
theorem d_prog_131_method_4_27 : decode prog_131_method_4_code 27 = .ok (.getfield 7, 3) := by decide +kernel
theorem d_prog_131_method_4_30 : decode prog_131_method_4_code 30 = .ok (.aload_n 0, 1) := by decide +kernel
theorem d_prog_131_method_4_31 : decode prog_131_method_4_code 31 = .ok (.getfield 13, 3) := by decide +kernel
theorem d_prog_131_method_4_34 : decode prog_131_method_4_code 34 = .ok (.aload_n 0, 1) := by decide +kernel
theorem d_prog_131_method_4_35 : decode prog_131_method_4_code 35 = .ok (.getfield 49, 3) := by decide +kernel
theorem d_prog_131_method_4_38 : decode prog_131_method_4_code 38 = .ok (.iaload, 1) := by decide +kernel
theorem d_prog_131_method_4_39 : decode prog_131_method_4_code 39 = .ok (.aload_n 0, 1) := by decide +kernel
theorem d_prog_131_method_4_40 : decode prog_131_method_4_code 40 = .ok (.getfield 19, 3) := by decide +kernel
theorem d_prog_131_method_4_43 : decode prog_131_method_4_code 43 = .ok (.aload_n 0, 1) := by decide +kernel
theorem d_prog_131_method_4_44 : decode prog_131_method_4_code 44 = .ok (.getfield 49, 3) := by decide +kernel
theorem d_prog_131_method_4_47 : decode prog_131_method_4_code 47 = .ok (.iaload, 1) := by decide +kernel
theorem d_prog_131_method_4_48 : decode prog_131_method_4_code 48 = .ok (.iastore, 1) := by decide +kernel
theorem d_prog_131_method_4_49 : decode prog_131_method_4_code 49 = .ok (.goto (-49), 3) := by decide +kernel
theorem d_prog_131_method_4_52 : decode prog_131_method_4_code 52 = .ok (.aload_n 0, 1) := by decide +kernel
theorem d_prog_131_method_4_53 : decode prog_131_method_4_code 53 = .ok (.dup, 1) := by decide +kernel
theorem d_prog_131_method_4_54 : decode prog_131_method_4_code 54 = .ok (.getfield 41, 3) := by decide +kernel
theorem d_prog_131_method_4_57 : decode prog_131_method_4_code 57 = .ok (.iconst 1, 1) := by decide +kernel
theorem d_prog_131_method_4_58 : decode prog_131_method_4_code 58 = .ok (.isub, 1) := by decide +kernel
theorem d_prog_131_method_4_59 : decode prog_131_method_4_code 59 = .ok (.putfield 41, 3) := by decide +kernel
theorem d_prog_131_method_4_62 : decode prog_131_method_4_code 62 = .ok (.return_, 1) := by decide +kernel
set_option maxRecDepth 65536 in
set_option maxHeartbeats 40000000 in
theorem close_loop {p : Program} {l : Launch} {e : Env} {R : Room} {s : State} {m : MethodId} {args : Array Value} {below : List Frame} {meth : Method} {c : Code} {cells slots : Nat} {Z : State} {a0 : Array Value} {n0 : Nat} {xa : Addr} {cl cv hc fc : List Int32} {dep : Int32} (hx : p.tables.exec = Jvm.exec) (hZ : Z.Warmed39 s.vm) (hw : ∀ d ∈ tables_1, d.before a0 Z = true) (hby : c.code = prog_131_method_4_code) (hml : c.maxLocals = 1) (hown : s.vm.findClass "com/example/orsay/orsay/SiblingPositions" = some m.cls) (hd : inR fc dep = true) :
    ∀ (k : Nat) (ic : List Int32) (cnt : Int32) (T : State) (locs : List Loc) (h : Heap), Stand p l e R s m args below meth c T locs cells slots → T.heap = h → Fr n0 locs → n0 ≤ h.size → SP Z n0 h xa ic cl cv hc fc cnt dep → clOk k ic cl hc (gI fc dep) cnt = true →
      ∃ (T' : State) (locs' : List Loc) (h' : Heap), Stand p l e R s m args below meth c T' locs' cells slots ∧ T'.heap = h' ∧ Fr n0 locs' ∧ n0 ≤ h'.size ∧ SP Z n0 h' xa (clG k ic cl hc (gI fc dep) cnt).1 cl cv hc fc (clG k ic cl hc (gI fc dep) cnt).2 dep ∧ ∀ target, Steps p.tables e below (T'.setTop (mkF m 52 #[.val (.ref xa)] [])) target → Steps p.tables e below (T.setTop (mkF m 0 #[.val (.ref xa)] [])) target := by
  intro k
  induction k with
  | zero =>
    intro ic cnt T locs h X0 e0 N0 Z0 hS hok
    have hz : ¬ gI fc dep < cnt := of_decide_eq_true hok
    obtain ⟨bi, bl, bv, bh, bf, Ex, Fi, Fl, Fv, Fh, Ff, Fc, Fd, Ai, Al, Av, Ah, Af, ⟨ne01, ne02, ne03, ne04, ne12, ne13, ne14, ne23, ne24, ne34⟩, ⟨ga, g0, g1, g2, g3, g4⟩⟩ := id hS
    obtain ⟨T1, X1, e1, st1⟩ := getF X0 hx hZ hown (host := "") (Or.inl (hw _ (List.mem_of_getElem? (i := 52) rfl))) Via.refl e0 Fc (g := (mkF m 1 #[.val (.ref xa)] [(.ref xa)])) rfl rfl (hb hby d_prog_131_method_4_1)
    obtain ⟨T2, X2, e2, st2⟩ := getF X1 hx hZ hown (host := "") (Or.inl (hw _ (List.mem_of_getElem? (i := 18) rfl))) Via.refl e1 Ff (g := (mkF m 5 #[.val (.ref xa)] [(.ref xa), (.int cnt)])) rfl rfl (hb hby d_prog_131_method_4_5)
    obtain ⟨T3, X3, e3, st3⟩ := getF X2 hx hZ hown (host := "") (Or.inl (hw _ (List.mem_of_getElem? (i := 46) rfl))) Via.refl e2 Fd (g := (mkF m 9 #[.val (.ref xa)] [(.ref xa), (.ref bf), (.int cnt)])) rfl rfl (hb hby d_prog_131_method_4_9)
    obtain ⟨cl4, Ar4, hin4, hat4, -⟩ := Af.rd (j := dep) hd
    refine ⟨T3, _, h, X3, e3, N0, Z0, hS, fun target kt => ?_⟩
    show Steps p.tables e below (T.setTop (mkF m 0 #[.val (.ref xa)] [])) _
    refine XS.aloadN X0.here hx rfl (hb hby d_prog_131_method_4_0) rfl rfl ?_
    show Steps p.tables e below (T.setTop (mkF m 1 #[.val (.ref xa)] [(.ref xa)])) _
    refine st1 _ ?_
    show Steps p.tables e below (T1.setTop (mkF m 4 #[.val (.ref xa)] [(.int cnt)])) _
    refine XS.aloadN X1.here hx rfl (hb hby d_prog_131_method_4_4) rfl rfl ?_
    show Steps p.tables e below (T1.setTop (mkF m 5 #[.val (.ref xa)] [(.ref xa), (.int cnt)])) _
    refine st2 _ ?_
    show Steps p.tables e below (T2.setTop (mkF m 8 #[.val (.ref xa)] [(.ref bf), (.int cnt)])) _
    refine XS.aloadN X2.here hx rfl (hb hby d_prog_131_method_4_8) rfl rfl ?_
    show Steps p.tables e below (T2.setTop (mkF m 9 #[.val (.ref xa)] [(.ref xa), (.ref bf), (.int cnt)])) _
    refine st3 _ ?_
    show Steps p.tables e below (T3.setTop (mkF m 12 #[.val (.ref xa)] [(.int dep), (.ref bf), (.int cnt)])) _
    refine X3.iaload hx (j := dep) (v := (.int (gI fc dep))) (by rw [e3]; exact Ar4.1) (State.isArrayOf_alike hZ.alike Ar4.2.1) Ar4.2.2 hin4 hat4 (g := (mkF m 12 #[.val (.ref xa)] [(.int dep), (.ref bf), (.int cnt)])) rfl rfl (hb hby d_prog_131_method_4_12) _ ?_
    show Steps p.tables e below (T3.setTop (mkF m 13 #[.val (.ref xa)] [(.int (gI fc dep)), (.int cnt)])) _
    refine XS.icmpYes X3.here hx rfl (pc0 := 13) (pc' := 52) rfl (hb hby d_prog_131_method_4_13) rfl (flt hz).2.2.2 (by decide) (by decide) ?_
    exact kt
  | succ k ih =>
    intro ic cnt T locs h X0 e0 N0 Z0 hS hok
    by_cases hz : gI fc dep < cnt
    · obtain ⟨o1, o2, o3, o4⟩ : inR cl (cnt - (1 : Int32)) = true ∧ inR hc (cnt - (1 : Int32)) = true ∧ inR ic (gI cl (cnt - (1 : Int32))) = true ∧ clOk k (sI ic (gI cl (cnt - 1)) (gI hc (cnt - 1))) cl hc (gI fc dep) (cnt - 1) = true := by rw [clOk, if_pos hz] at hok; simpa only [Bool.and_eq_true] using hok
      obtain ⟨bi, bl, bv, bh, bf, Ex, Fi, Fl, Fv, Fh, Ff, Fc, Fd, Ai, Al, Av, Ah, Af, ⟨ne01, ne02, ne03, ne04, ne12, ne13, ne14, ne23, ne24, ne34⟩, ⟨ga, g0, g1, g2, g3, g4⟩⟩ := id hS
      obtain ⟨T5, X5, e5, st5⟩ := getF X0 hx hZ hown (host := "") (Or.inl (hw _ (List.mem_of_getElem? (i := 52) rfl))) Via.refl e0 Fc (g := (mkF m 1 #[.val (.ref xa)] [(.ref xa)])) rfl rfl (hb hby d_prog_131_method_4_1)
      obtain ⟨T6, X6, e6, st6⟩ := getF X5 hx hZ hown (host := "") (Or.inl (hw _ (List.mem_of_getElem? (i := 18) rfl))) Via.refl e5 Ff (g := (mkF m 5 #[.val (.ref xa)] [(.ref xa), (.int cnt)])) rfl rfl (hb hby d_prog_131_method_4_5)
      obtain ⟨T7, X7, e7, st7⟩ := getF X6 hx hZ hown (host := "") (Or.inl (hw _ (List.mem_of_getElem? (i := 46) rfl))) Via.refl e6 Fd (g := (mkF m 9 #[.val (.ref xa)] [(.ref xa), (.ref bf), (.int cnt)])) rfl rfl (hb hby d_prog_131_method_4_9)
      obtain ⟨cl8, Ar8, hin8, hat8, -⟩ := Af.rd (j := dep) hd
      obtain ⟨T9, X9, e9, st9⟩ := getF X7 hx hZ hown (host := "") (Or.inl (hw _ (List.mem_of_getElem? (i := 52) rfl))) Via.refl e7 Fc (g := (mkF m 18 #[.val (.ref xa)] [(.ref xa), (.ref xa)])) rfl rfl (hb hby d_prog_131_method_4_18)
      obtain ⟨T10, h10, X10, e10, W10, st10⟩ := putF X9 hx hZ hown (host := "") (Or.inl (hw _ (List.mem_of_getElem? (i := 52) rfl))) Via.refl e9 Fc Ex (Or.inl (hw _ (List.mem_of_getElem? (i := 53) rfl))) (hw _ (List.mem_of_getElem? (i := 1) rfl)) (ty := .int) (by decide) rfl rfl (g := (mkF m 23 #[.val (.ref xa)] [(.int (cnt - (1 : Int32))), (.ref xa)])) rfl rfl (hb hby d_prog_131_method_4_23)
      have F10_innermostCount := Fi.other W10 (Or.inr (slot_ne (Or.inl (hw _ (List.mem_of_getElem? (i := 11) rfl))) (Or.inl (hw _ (List.mem_of_getElem? (i := 53) rfl))) (by decide) (t := (.array .int)) (t' := .int) (by decide) (by decide)))
      have F10_countLabel := Fl.other W10 (Or.inr (slot_ne (Or.inl (hw _ (List.mem_of_getElem? (i := 13) rfl))) (Or.inl (hw _ (List.mem_of_getElem? (i := 53) rfl))) (by decide) (t := (.array .int)) (t' := .int) (by decide) (by decide)))
      have F10_countValue := Fv.other W10 (Or.inr (slot_ne (Or.inl (hw _ (List.mem_of_getElem? (i := 15) rfl))) (Or.inl (hw _ (List.mem_of_getElem? (i := 53) rfl))) (by decide) (t := (.array .int)) (t' := .int) (by decide) (by decide)))
      have F10_hiddenCount := Fh.other W10 (Or.inr (slot_ne (Or.inl (hw _ (List.mem_of_getElem? (i := 17) rfl))) (Or.inl (hw _ (List.mem_of_getElem? (i := 53) rfl))) (by decide) (t := (.array .int)) (t' := .int) (by decide) (by decide)))
      have F10_firstCount := Ff.other W10 (Or.inr (slot_ne (Or.inl (hw _ (List.mem_of_getElem? (i := 19) rfl))) (Or.inl (hw _ (List.mem_of_getElem? (i := 53) rfl))) (by decide) (t := (.array .int)) (t' := .int) (by decide) (by decide)))
      have F10_counts := Fc.same W10
      have F10_depth := Fd.other W10 (Or.inr (slot_ne (Or.inl (hw _ (List.mem_of_getElem? (i := 47) rfl))) (Or.inl (hw _ (List.mem_of_getElem? (i := 53) rfl))) (by decide) (t := .int) (t' := .int) (by decide) (by decide)))
      have Ex10_xa := Ex.wr W10
      have A10_bi := Ai.other W10 (Ne.symm (Ai.neE Ex (hw _ (List.mem_of_getElem? (i := 1) rfl))))
      have A10_bl := Al.other W10 (Ne.symm (Al.neE Ex (hw _ (List.mem_of_getElem? (i := 1) rfl))))
      have A10_bv := Av.other W10 (Ne.symm (Av.neE Ex (hw _ (List.mem_of_getElem? (i := 1) rfl))))
      have A10_bh := Ah.other W10 (Ne.symm (Ah.neE Ex (hw _ (List.mem_of_getElem? (i := 1) rfl))))
      have A10_bf := Af.other W10 (Ne.symm (Af.neE Ex (hw _ (List.mem_of_getElem? (i := 1) rfl))))
      have N10 := Fr.snoc X10 N0 ga
      obtain ⟨T11, X11, e11, st11⟩ := getF X10 hx hZ hown (host := "") (Or.inl (hw _ (List.mem_of_getElem? (i := 10) rfl))) Via.refl e10 F10_innermostCount (g := (mkF m 27 #[.val (.ref xa)] [(.ref xa)])) rfl rfl (hb hby d_prog_131_method_4_27)
      obtain ⟨T12, X12, e12, st12⟩ := getF X11 hx hZ hown (host := "") (Or.inl (hw _ (List.mem_of_getElem? (i := 12) rfl))) Via.refl e11 F10_countLabel (g := (mkF m 31 #[.val (.ref xa)] [(.ref xa), (.ref bi)])) rfl rfl (hb hby d_prog_131_method_4_31)
      obtain ⟨T13, X13, e13, st13⟩ := getF X12 hx hZ hown (host := "") (Or.inl (hw _ (List.mem_of_getElem? (i := 52) rfl))) Via.refl e12 F10_counts (g := (mkF m 35 #[.val (.ref xa)] [(.ref xa), (.ref bl), (.ref bi)])) rfl rfl (hb hby d_prog_131_method_4_35)
      obtain ⟨cl14, Ar14, hin14, hat14, -⟩ := A10_bl.rd (j := (cnt - (1 : Int32))) o1
      obtain ⟨T15, X15, e15, st15⟩ := getF X13 hx hZ hown (host := "") (Or.inl (hw _ (List.mem_of_getElem? (i := 16) rfl))) Via.refl e13 F10_hiddenCount (g := (mkF m 40 #[.val (.ref xa)] [(.ref xa), (.int (gI cl (cnt - (1 : Int32)))), (.ref bi)])) rfl rfl (hb hby d_prog_131_method_4_40)
      obtain ⟨T16, X16, e16, st16⟩ := getF X15 hx hZ hown (host := "") (Or.inl (hw _ (List.mem_of_getElem? (i := 52) rfl))) Via.refl e15 F10_counts (g := (mkF m 44 #[.val (.ref xa)] [(.ref xa), (.ref bh), (.int (gI cl (cnt - (1 : Int32)))), (.ref bi)])) rfl rfl (hb hby d_prog_131_method_4_44)
      obtain ⟨cl17, Ar17, hin17, hat17, -⟩ := A10_bh.rd (j := (cnt - (1 : Int32))) o2
      obtain ⟨cl18, Ar18, hin18, -, u18⟩ := A10_bi.rd (j := (gI cl (cnt - (1 : Int32)))) o3
      obtain ⟨T18, h18, X18, e18, W18, st18⟩ := stI X16 hx hZ e16 Ar18 (j := (gI cl (cnt - (1 : Int32)))) hin18 (g := (mkF m 48 #[.val (.ref xa)] [(.int (gI hc (cnt - (1 : Int32)))), (.int (gI cl (cnt - (1 : Int32)))), (.ref bi)])) rfl rfl (hb hby d_prog_131_method_4_48)
      have F18_innermostCount := F10_innermostCount.other W18 (Or.inl (A10_bi.neE Ex10_xa (hw _ (List.mem_of_getElem? (i := 1) rfl))))
      have F18_countLabel := F10_countLabel.other W18 (Or.inl (A10_bi.neE Ex10_xa (hw _ (List.mem_of_getElem? (i := 1) rfl))))
      have F18_countValue := F10_countValue.other W18 (Or.inl (A10_bi.neE Ex10_xa (hw _ (List.mem_of_getElem? (i := 1) rfl))))
      have F18_hiddenCount := F10_hiddenCount.other W18 (Or.inl (A10_bi.neE Ex10_xa (hw _ (List.mem_of_getElem? (i := 1) rfl))))
      have F18_firstCount := F10_firstCount.other W18 (Or.inl (A10_bi.neE Ex10_xa (hw _ (List.mem_of_getElem? (i := 1) rfl))))
      have F18_counts := F10_counts.other W18 (Or.inl (A10_bi.neE Ex10_xa (hw _ (List.mem_of_getElem? (i := 1) rfl))))
      have F18_depth := F10_depth.other W18 (Or.inl (A10_bi.neE Ex10_xa (hw _ (List.mem_of_getElem? (i := 1) rfl))))
      have Ex18_xa := Ex10_xa.wr W18
      have A18_bi := u18 _ _ W18
      have A18_bl := A10_bl.other W18 (Ne.symm ne01)
      have A18_bv := A10_bv.other W18 (Ne.symm ne02)
      have A18_bh := A10_bh.other W18 (Ne.symm ne03)
      have A18_bf := A10_bf.other W18 (Ne.symm ne04)
      have N18 := Fr.snoc X18 N10 g0
      obtain ⟨T', locs', h', X', e', N', Z', S', st'⟩ := ih (sI ic (gI cl (cnt - 1)) (gI hc (cnt - 1))) (cnt - 1) T18 _ h18 X18 e18 N18 (Nat.le_trans (Nat.le_trans Z0 (Keep.of_wr W10).1) (Keep.of_wr W18).1) ⟨bi, bl, bv, bh, bf, Ex18_xa, F18_innermostCount, F18_countLabel, F18_countValue, F18_hiddenCount, F18_firstCount, F18_counts, F18_depth, A18_bi, A18_bl, A18_bv, A18_bh, A18_bf, ⟨ne01, ne02, ne03, ne04, ne12, ne13, ne14, ne23, ne24, ne34⟩, ⟨ga, g0, g1, g2, g3, g4⟩⟩ o4
      refine ⟨T', locs', h', X', e', N', Z', by rw [clG, if_pos hz]; exact S', fun target kt => ?_⟩
      show Steps p.tables e below (T.setTop (mkF m 0 #[.val (.ref xa)] [])) _
      refine XS.aloadN X0.here hx rfl (hb hby d_prog_131_method_4_0) rfl rfl ?_
      show Steps p.tables e below (T.setTop (mkF m 1 #[.val (.ref xa)] [(.ref xa)])) _
      refine st5 _ ?_
      show Steps p.tables e below (T5.setTop (mkF m 4 #[.val (.ref xa)] [(.int cnt)])) _
      refine XS.aloadN X5.here hx rfl (hb hby d_prog_131_method_4_4) rfl rfl ?_
      show Steps p.tables e below (T5.setTop (mkF m 5 #[.val (.ref xa)] [(.ref xa), (.int cnt)])) _
      refine st6 _ ?_
      show Steps p.tables e below (T6.setTop (mkF m 8 #[.val (.ref xa)] [(.ref bf), (.int cnt)])) _
      refine XS.aloadN X6.here hx rfl (hb hby d_prog_131_method_4_8) rfl rfl ?_
      show Steps p.tables e below (T6.setTop (mkF m 9 #[.val (.ref xa)] [(.ref xa), (.ref bf), (.int cnt)])) _
      refine st7 _ ?_
      show Steps p.tables e below (T7.setTop (mkF m 12 #[.val (.ref xa)] [(.int dep), (.ref bf), (.int cnt)])) _
      refine X7.iaload hx (j := dep) (v := (.int (gI fc dep))) (by rw [e7]; exact Ar8.1) (State.isArrayOf_alike hZ.alike Ar8.2.1) Ar8.2.2 hin8 hat8 (g := (mkF m 12 #[.val (.ref xa)] [(.int dep), (.ref bf), (.int cnt)])) rfl rfl (hb hby d_prog_131_method_4_12) _ ?_
      show Steps p.tables e below (T7.setTop (mkF m 13 #[.val (.ref xa)] [(.int (gI fc dep)), (.int cnt)])) _
      refine XS.icmpNo X7.here hx rfl (hb hby d_prog_131_method_4_13) rfl (tlt hz).2.2.2 ?_
      show Steps p.tables e below (T7.setTop (mkF m 16 #[.val (.ref xa)] [])) _
      refine XS.aloadN X7.here hx rfl (hb hby d_prog_131_method_4_16) rfl rfl ?_
      show Steps p.tables e below (T7.setTop (mkF m 17 #[.val (.ref xa)] [(.ref xa)])) _
      refine XS.dup X7.here hx rfl (hb hby d_prog_131_method_4_17) rfl rfl ?_
      show Steps p.tables e below (T7.setTop (mkF m 18 #[.val (.ref xa)] [(.ref xa), (.ref xa)])) _
      refine st9 _ ?_
      show Steps p.tables e below (T9.setTop (mkF m 21 #[.val (.ref xa)] [(.int cnt), (.ref xa)])) _
      refine XS.iconst X9.here hx rfl (hb hby d_prog_131_method_4_21) ?_
      show Steps p.tables e below (T9.setTop (mkF m 22 #[.val (.ref xa)] [(.int (1 : Int32)), (.int cnt), (.ref xa)])) _
      refine XS.isub X9.here hx rfl (hb hby d_prog_131_method_4_22) rfl ?_
      show Steps p.tables e below (T9.setTop (mkF m 23 #[.val (.ref xa)] [(.int (cnt - (1 : Int32))), (.ref xa)])) _
      refine st10 _ ?_
      show Steps p.tables e below (T10.setTop (mkF m 26 #[.val (.ref xa)] [])) _
      refine XS.aloadN X10.here hx rfl (hb hby d_prog_131_method_4_26) rfl rfl ?_
      show Steps p.tables e below (T10.setTop (mkF m 27 #[.val (.ref xa)] [(.ref xa)])) _
      refine st11 _ ?_
      show Steps p.tables e below (T11.setTop (mkF m 30 #[.val (.ref xa)] [(.ref bi)])) _
      refine XS.aloadN X11.here hx rfl (hb hby d_prog_131_method_4_30) rfl rfl ?_
      show Steps p.tables e below (T11.setTop (mkF m 31 #[.val (.ref xa)] [(.ref xa), (.ref bi)])) _
      refine st12 _ ?_
      show Steps p.tables e below (T12.setTop (mkF m 34 #[.val (.ref xa)] [(.ref bl), (.ref bi)])) _
      refine XS.aloadN X12.here hx rfl (hb hby d_prog_131_method_4_34) rfl rfl ?_
      show Steps p.tables e below (T12.setTop (mkF m 35 #[.val (.ref xa)] [(.ref xa), (.ref bl), (.ref bi)])) _
      refine st13 _ ?_
      show Steps p.tables e below (T13.setTop (mkF m 38 #[.val (.ref xa)] [(.int (cnt - (1 : Int32))), (.ref bl), (.ref bi)])) _
      refine X13.iaload hx (j := (cnt - (1 : Int32))) (v := (.int (gI cl (cnt - (1 : Int32))))) (by rw [e13]; exact Ar14.1) (State.isArrayOf_alike hZ.alike Ar14.2.1) Ar14.2.2 hin14 hat14 (g := (mkF m 38 #[.val (.ref xa)] [(.int (cnt - (1 : Int32))), (.ref bl), (.ref bi)])) rfl rfl (hb hby d_prog_131_method_4_38) _ ?_
      show Steps p.tables e below (T13.setTop (mkF m 39 #[.val (.ref xa)] [(.int (gI cl (cnt - (1 : Int32)))), (.ref bi)])) _
      refine XS.aloadN X13.here hx rfl (hb hby d_prog_131_method_4_39) rfl rfl ?_
      show Steps p.tables e below (T13.setTop (mkF m 40 #[.val (.ref xa)] [(.ref xa), (.int (gI cl (cnt - (1 : Int32)))), (.ref bi)])) _
      refine st15 _ ?_
      show Steps p.tables e below (T15.setTop (mkF m 43 #[.val (.ref xa)] [(.ref bh), (.int (gI cl (cnt - (1 : Int32)))), (.ref bi)])) _
      refine XS.aloadN X15.here hx rfl (hb hby d_prog_131_method_4_43) rfl rfl ?_
      show Steps p.tables e below (T15.setTop (mkF m 44 #[.val (.ref xa)] [(.ref xa), (.ref bh), (.int (gI cl (cnt - (1 : Int32)))), (.ref bi)])) _
      refine st16 _ ?_
      show Steps p.tables e below (T16.setTop (mkF m 47 #[.val (.ref xa)] [(.int (cnt - (1 : Int32))), (.ref bh), (.int (gI cl (cnt - (1 : Int32)))), (.ref bi)])) _
      refine X16.iaload hx (j := (cnt - (1 : Int32))) (v := (.int (gI hc (cnt - (1 : Int32))))) (by rw [e16]; exact Ar17.1) (State.isArrayOf_alike hZ.alike Ar17.2.1) Ar17.2.2 hin17 hat17 (g := (mkF m 47 #[.val (.ref xa)] [(.int (cnt - (1 : Int32))), (.ref bh), (.int (gI cl (cnt - (1 : Int32)))), (.ref bi)])) rfl rfl (hb hby d_prog_131_method_4_47) _ ?_
      show Steps p.tables e below (T16.setTop (mkF m 48 #[.val (.ref xa)] [(.int (gI hc (cnt - (1 : Int32)))), (.int (gI cl (cnt - (1 : Int32)))), (.ref bi)])) _
      refine st18 _ ?_
      show Steps p.tables e below (T18.setTop (mkF m 49 #[.val (.ref xa)] [])) _
      refine XS.goto X18.here hx rfl (pc0 := 49) (pc' := 0) rfl (hb hby d_prog_131_method_4_49) (by decide) (by decide) ?_
      exact st' _ kt
    · obtain ⟨bi, bl, bv, bh, bf, Ex, Fi, Fl, Fv, Fh, Ff, Fc, Fd, Ai, Al, Av, Ah, Af, ⟨ne01, ne02, ne03, ne04, ne12, ne13, ne14, ne23, ne24, ne34⟩, ⟨ga, g0, g1, g2, g3, g4⟩⟩ := id hS
      obtain ⟨T19, X19, e19, st19⟩ := getF X0 hx hZ hown (host := "") (Or.inl (hw _ (List.mem_of_getElem? (i := 52) rfl))) Via.refl e0 Fc (g := (mkF m 1 #[.val (.ref xa)] [(.ref xa)])) rfl rfl (hb hby d_prog_131_method_4_1)
      obtain ⟨T20, X20, e20, st20⟩ := getF X19 hx hZ hown (host := "") (Or.inl (hw _ (List.mem_of_getElem? (i := 18) rfl))) Via.refl e19 Ff (g := (mkF m 5 #[.val (.ref xa)] [(.ref xa), (.int cnt)])) rfl rfl (hb hby d_prog_131_method_4_5)
      obtain ⟨T21, X21, e21, st21⟩ := getF X20 hx hZ hown (host := "") (Or.inl (hw _ (List.mem_of_getElem? (i := 46) rfl))) Via.refl e20 Fd (g := (mkF m 9 #[.val (.ref xa)] [(.ref xa), (.ref bf), (.int cnt)])) rfl rfl (hb hby d_prog_131_method_4_9)
      obtain ⟨cl22, Ar22, hin22, hat22, -⟩ := Af.rd (j := dep) hd
      refine ⟨T21, _, h, X21, e21, N0, Z0, by rw [clG, if_neg hz]; exact hS, fun target kt => ?_⟩
      show Steps p.tables e below (T.setTop (mkF m 0 #[.val (.ref xa)] [])) _
      refine XS.aloadN X0.here hx rfl (hb hby d_prog_131_method_4_0) rfl rfl ?_
      show Steps p.tables e below (T.setTop (mkF m 1 #[.val (.ref xa)] [(.ref xa)])) _
      refine st19 _ ?_
      show Steps p.tables e below (T19.setTop (mkF m 4 #[.val (.ref xa)] [(.int cnt)])) _
      refine XS.aloadN X19.here hx rfl (hb hby d_prog_131_method_4_4) rfl rfl ?_
      show Steps p.tables e below (T19.setTop (mkF m 5 #[.val (.ref xa)] [(.ref xa), (.int cnt)])) _
      refine st20 _ ?_
      show Steps p.tables e below (T20.setTop (mkF m 8 #[.val (.ref xa)] [(.ref bf), (.int cnt)])) _
      refine XS.aloadN X20.here hx rfl (hb hby d_prog_131_method_4_8) rfl rfl ?_
      show Steps p.tables e below (T20.setTop (mkF m 9 #[.val (.ref xa)] [(.ref xa), (.ref bf), (.int cnt)])) _
      refine st21 _ ?_
      show Steps p.tables e below (T21.setTop (mkF m 12 #[.val (.ref xa)] [(.int dep), (.ref bf), (.int cnt)])) _
      refine X21.iaload hx (j := dep) (v := (.int (gI fc dep))) (by rw [e21]; exact Ar22.1) (State.isArrayOf_alike hZ.alike Ar22.2.1) Ar22.2.2 hin22 hat22 (g := (mkF m 12 #[.val (.ref xa)] [(.int dep), (.ref bf), (.int cnt)])) rfl rfl (hb hby d_prog_131_method_4_12) _ ?_
      show Steps p.tables e below (T21.setTop (mkF m 13 #[.val (.ref xa)] [(.int (gI fc dep)), (.int cnt)])) _
      refine XS.icmpYes X21.here hx rfl (pc0 := 13) (pc' := 52) rfl (hb hby d_prog_131_method_4_13) rfl (flt hz).2.2.2 (by decide) (by decide) ?_
      exact kt
theorem ef_close (m : MethodId) (xa : Addr) : entryFrame m #[(.ref xa)] 1 = mkF m 0 #[.val (.ref xa)] [] := by first | (simp [entryFrame, mkF, argsToLocals, Value.category]; done) | rfl
def Q_close (Z : State) (xa : Addr) (ic : List Int32) (cl : List Int32) (cv : List Int32) (hc : List Int32) (fc : List Int32) (cnt : Int32) (dep : Int32) (h0 : Heap) (n0 : Nat) (v : Option Value) (h : Heap) (L : List Loc) : Prop := v = none ∧ Fr n0 L ∧ SPs Z n0 h xa (closeS (ic, cl, cv, hc, fc, cnt, dep))
set_option maxRecDepth 65536 in
set_option maxHeartbeats 40000000 in
theorem rm_close (l : Launch) (Z : State) (a0 : Array Value) (hw : ∀ d ∈ tables_1, d.before a0 Z = true) (ws : List Jvm.Cond) (xa : Addr) (ic : List Int32) (cl : List Int32) (cv : List Int32) (hc : List Int32) (fc : List Int32) (cnt : Int32) (dep : Int32) (h0 : Heap) (n0 : Nat) (Z0 : n0 ≤ h0.size) (hS : SP Z n0 h0 xa ic cl cv hc fc cnt dep) (hok : closeOk (ic, cl, cv, hc, fc, cnt, dep) = true) :
    MetFree l (⟨"com/example/orsay/orsay/SiblingPositions", "close", "()V"⟩ : MethodName) (head1 (Jvm.Cond.code (⟨"com/example/orsay/orsay/SiblingPositions", "close", "()V"⟩ : MethodName) prog_131_method_4_code 1 none :: ws) ({ frames := 0, cells := 0, slots := 0, locals := 0 } : Room)) (fun a U => a = #[(.ref xa)] ∧ Z.Warmed39 U.vm ∧ U.heap = h0) (fun _ _ _ _ _ => True) (fun _ U o U' => ∃ v L, o = .returned v ∧ Q_close Z xa ic cl cv hc fc cnt dep h0 n0 v U'.heap L ∧ FrameEnd U o U' L ({ frames := 0, cells := 0, slots := 0, locals := 0 } : Room).cells ({ frames := 0, cells := 0, slots := 0, locals := 0 } : Room).slots) := by
  refine MetFree.of_bodySF (plainFor_of_name pn_1) hisR ?_
  intro p e s m args below meth c s₁ Bd hml0 hP hK
  obtain ⟨rfl, hZ, hh⟩ := hP
  have hx := Bd.exec
  have hby := Bd.bytes
  have hml : c.maxLocals = 1 := hml0
  have hown : s.vm.findClass "com/example/orsay/orsay/SiblingPositions" = some m.cls := findClass_of_methodNamed Bd.named
  have hnm := (name_of_methodNamed Bd.named Bd.method).1
  have X0 : Stand p l e ({ frames := 0, cells := 0, slots := 0, locals := 0 } : Room) s m #[(.ref xa)] below meth c s₁ [] 0 0 := Stand.of_body Bd
  have e0 : s₁.heap = h0 := by rw [← hh, Bd.state]; rfl
  have N0 := Fr.nil n0
  have pre0 : ∀ t, Steps p.tables e below (s₁.setTop (mkF m 0 #[.val (.ref xa)] [])) t → Steps p.tables e below (s₁.setTop (entryFrame m #[(.ref xa)] 1)) t := fun t k => castTop (ef_close m xa) k
  obtain ⟨hd, ho⟩ : inR fc dep = true ∧ clOk 3 ic cl hc (gI fc dep) cnt = true := by simpa only [closeOk, Bool.and_eq_true] using hok
  obtain ⟨T1, L1, h1, X1, e1, N1, Z1, S1, st1⟩ := close_loop hx hZ hw hby hml hown hd 3 ic cnt s₁ _ h0 X0 e0 N0 Z0 hS ho
  obtain ⟨bi, bl, bv, bh, bf, Ex, Fi, Fl, Fv, Fh, Ff, Fc, Fd, Ai, Al, Av, Ah, Af, ⟨ne01, ne02, ne03, ne04, ne12, ne13, ne14, ne23, ne24, ne34⟩, ⟨ga, g0, g1, g2, g3, g4⟩⟩ := S1
  obtain ⟨T2, X2, e2, st2⟩ := getF X1 hx hZ hown (host := "") (Or.inl (hw _ (List.mem_of_getElem? (i := 46) rfl))) Via.refl e1 Fd (g := (mkF m 54 #[.val (.ref xa)] [(.ref xa), (.ref xa)])) rfl rfl (hb hby d_prog_131_method_4_54)
  obtain ⟨T3, h3, X3, e3, W3, st3⟩ := putF X2 hx hZ hown (host := "") (Or.inl (hw _ (List.mem_of_getElem? (i := 46) rfl))) Via.refl e2 Fd Ex (Or.inl (hw _ (List.mem_of_getElem? (i := 47) rfl))) (hw _ (List.mem_of_getElem? (i := 1) rfl)) (ty := .int) (by decide) rfl rfl (g := (mkF m 59 #[.val (.ref xa)] [(.int (dep - (1 : Int32))), (.ref xa)])) rfl rfl (hb hby d_prog_131_method_4_59)
  have F3_innermostCount := Fi.other W3 (Or.inr (slot_ne (Or.inl (hw _ (List.mem_of_getElem? (i := 11) rfl))) (Or.inl (hw _ (List.mem_of_getElem? (i := 47) rfl))) (by decide) (t := (.array .int)) (t' := .int) (by decide) (by decide)))
  have F3_countLabel := Fl.other W3 (Or.inr (slot_ne (Or.inl (hw _ (List.mem_of_getElem? (i := 13) rfl))) (Or.inl (hw _ (List.mem_of_getElem? (i := 47) rfl))) (by decide) (t := (.array .int)) (t' := .int) (by decide) (by decide)))
  have F3_countValue := Fv.other W3 (Or.inr (slot_ne (Or.inl (hw _ (List.mem_of_getElem? (i := 15) rfl))) (Or.inl (hw _ (List.mem_of_getElem? (i := 47) rfl))) (by decide) (t := (.array .int)) (t' := .int) (by decide) (by decide)))
  have F3_hiddenCount := Fh.other W3 (Or.inr (slot_ne (Or.inl (hw _ (List.mem_of_getElem? (i := 17) rfl))) (Or.inl (hw _ (List.mem_of_getElem? (i := 47) rfl))) (by decide) (t := (.array .int)) (t' := .int) (by decide) (by decide)))
  have F3_firstCount := Ff.other W3 (Or.inr (slot_ne (Or.inl (hw _ (List.mem_of_getElem? (i := 19) rfl))) (Or.inl (hw _ (List.mem_of_getElem? (i := 47) rfl))) (by decide) (t := (.array .int)) (t' := .int) (by decide) (by decide)))
  have F3_counts := Fc.other W3 (Or.inr (slot_ne (Or.inl (hw _ (List.mem_of_getElem? (i := 53) rfl))) (Or.inl (hw _ (List.mem_of_getElem? (i := 47) rfl))) (by decide) (t := .int) (t' := .int) (by decide) (by decide)))
  have F3_depth := Fd.same W3
  have Ex3_xa := Ex.wr W3
  have A3_bi := Ai.other W3 (Ne.symm (Ai.neE Ex (hw _ (List.mem_of_getElem? (i := 1) rfl))))
  have A3_bl := Al.other W3 (Ne.symm (Al.neE Ex (hw _ (List.mem_of_getElem? (i := 1) rfl))))
  have A3_bv := Av.other W3 (Ne.symm (Av.neE Ex (hw _ (List.mem_of_getElem? (i := 1) rfl))))
  have A3_bh := Ah.other W3 (Ne.symm (Ah.neE Ex (hw _ (List.mem_of_getElem? (i := 1) rfl))))
  have A3_bf := Af.other W3 (Ne.symm (Af.neE Ex (hw _ (List.mem_of_getElem? (i := 1) rfl))))
  have N3 := Fr.snoc X3 N1 ga
  obtain ⟨fs, hr, hrun, hended, hW, hsame⟩ := X3.leave (v := none) (fun _ => rfl)
  refine ⟨_, _, pre0 _ ?_, hrun, hended, _, _, rfl, ?_, ⟨_, rfl⟩, hW, hsame.mono (by decide) (by decide)⟩
  · show Steps p.tables e below (s₁.setTop (mkF m 0 #[.val (.ref xa)] [])) _
    refine st1 _ ?_
    show Steps p.tables e below (T1.setTop (mkF m 52 #[.val (.ref xa)] [])) _
    refine XS.aloadN X1.here hx rfl (hb hby d_prog_131_method_4_52) rfl rfl ?_
    show Steps p.tables e below (T1.setTop (mkF m 53 #[.val (.ref xa)] [(.ref xa)])) _
    refine XS.dup X1.here hx rfl (hb hby d_prog_131_method_4_53) rfl rfl ?_
    show Steps p.tables e below (T1.setTop (mkF m 54 #[.val (.ref xa)] [(.ref xa), (.ref xa)])) _
    refine st2 _ ?_
    show Steps p.tables e below (T2.setTop (mkF m 57 #[.val (.ref xa)] [(.int dep), (.ref xa)])) _
    refine XS.iconst X2.here hx rfl (hb hby d_prog_131_method_4_57) ?_
    show Steps p.tables e below (T2.setTop (mkF m 58 #[.val (.ref xa)] [(.int (1 : Int32)), (.int dep), (.ref xa)])) _
    refine XS.isub X2.here hx rfl (hb hby d_prog_131_method_4_58) rfl ?_
    show Steps p.tables e below (T2.setTop (mkF m 59 #[.val (.ref xa)] [(.int (dep - (1 : Int32))), (.ref xa)])) _
    refine st3 _ ?_
    show Steps p.tables e below (T3.setTop (mkF m 62 #[.val (.ref xa)] [])) _
    exact X3.returnOut hx Bd.returns (hb hby d_prog_131_method_4_62) hr
  · show Q_close Z xa ic cl cv hc fc cnt dep h0 n0 _ T3.heap _
    rw [e3]
    exact ⟨rfl, N3, ⟨bi, bl, bv, bh, bf, Ex3_xa, F3_innermostCount, F3_countLabel, F3_countValue, F3_hiddenCount, F3_firstCount, F3_counts, F3_depth, A3_bi, A3_bl, A3_bv, A3_bh, A3_bf, ⟨ne01, ne02, ne03, ne04, ne12, ne13, ne14, ne23, ne24, ne34⟩, ⟨ga, g0, g1, g2, g3, g4⟩⟩⟩
theorem grow_facts {ic : List Int32} {l : Int32} (hl : ic.length ≤ 1000) (h : growOk ic l = true) (hc : ¬ l < Int32.ofNat ic.length) : Int32.ofNat ic.length < capF ic l ∧ (capF ic l).toNatClampNeg ≤ 8 := by
  simpa only [growOk, decide_eq_false hc, Bool.false_or, Bool.and_eq_true, decide_eq_true_eq] using h
theorem fill_k {ic : List Int32} {n : Int32} (hl : ic.length ≤ 1000) (hlt : Int32.ofNat ic.length < n) (hc : n.toNatClampNeg ≤ 8) : (Int32.ofNat ic.length).toInt + ((n.toNatClampNeg - ic.length : Nat) : Int) = (Int32.ofNat (cpyF ic n).length).toInt := by
  obtain ⟨h1, h2⟩ := own_lt hl hlt
  rw [cpy_len h2, own_len hl, own_len (by omega)]; omega
theorem d_prog_131_method_2_0 : decode prog_131_method_2_code 0 = .ok (.iload_n 1, 1) := by decide +kernel
theorem d_prog_131_method_2_1 : decode prog_131_method_2_code 1 = .ok (.aload_n 0, 1) := by decide +kernel
theorem d_prog_131_method_2_2 : decode prog_131_method_2_code 2 = .ok (.getfield 7, 3) := by decide +kernel
theorem d_prog_131_method_2_5 : decode prog_131_method_2_code 5 = .ok (.arraylength, 1) := by decide +kernel
theorem d_prog_131_method_2_6 : decode prog_131_method_2_code 6 = .ok (.if_icmp .lt 43, 3) := by decide +kernel
theorem d_prog_131_method_2_9 : decode prog_131_method_2_code 9 = .ok (.aload_n 0, 1) := by decide +kernel
theorem d_prog_131_method_2_10 : decode prog_131_method_2_code 10 = .ok (.getfield 7, 3) := by decide +kernel
theorem d_prog_131_method_2_13 : decode prog_131_method_2_code 13 = .ok (.arraylength, 1) := by decide +kernel
theorem d_prog_131_method_2_14 : decode prog_131_method_2_code 14 = .ok (.istore_n 2, 1) := by decide +kernel
theorem d_prog_131_method_2_15 : decode prog_131_method_2_code 15 = .ok (.aload_n 0, 1) := by decide +kernel
theorem d_prog_131_method_2_16 : decode prog_131_method_2_code 16 = .ok (.aload_n 0, 1) := by decide +kernel
theorem d_prog_131_method_2_17 : decode prog_131_method_2_code 17 = .ok (.getfield 7, 3) := by decide +kernel
theorem d_prog_131_method_2_20 : decode prog_131_method_2_code 20 = .ok (.iconst 2, 1) := by decide +kernel
theorem d_prog_131_method_2_21 : decode prog_131_method_2_code 21 = .ok (.iload_n 2, 1) := by decide +kernel
theorem d_prog_131_method_2_22 : decode prog_131_method_2_code 22 = .ok (.imul, 1) := by decide +kernel
theorem d_prog_131_method_2_23 : decode prog_131_method_2_code 23 = .ok (.iload_n 1, 1) := by decide +kernel
theorem d_prog_131_method_2_24 : decode prog_131_method_2_code 24 = .ok (.iconst 1, 1) := by decide +kernel
theorem d_prog_131_method_2_25 : decode prog_131_method_2_code 25 = .ok (.iadd, 1) := by decide +kernel
theorem d_prog_131_method_2_26 : decode prog_131_method_2_code 26 = .ok (.invokestatic 25, 3) := by decide +kernel
theorem d_prog_131_method_2_29 : decode prog_131_method_2_code 29 = .ok (.invokestatic 31, 3) := by decide +kernel
theorem d_prog_131_method_2_32 : decode prog_131_method_2_code 32 = .ok (.putfield 7, 3) := by decide +kernel
theorem d_prog_131_method_2_35 : decode prog_131_method_2_code 35 = .ok (.aload_n 0, 1) := by decide +kernel
theorem d_prog_131_method_2_36 : decode prog_131_method_2_code 36 = .ok (.getfield 7, 3) := by decide +kernel
theorem d_prog_131_method_2_39 : decode prog_131_method_2_code 39 = .ok (.iload_n 2, 1) := by decide +kernel
theorem d_prog_131_method_2_40 : decode prog_131_method_2_code 40 = .ok (.aload_n 0, 1) := by decide +kernel
theorem d_prog_131_method_2_41 : decode prog_131_method_2_code 41 = .ok (.getfield 7, 3) := by decide +kernel
theorem d_prog_131_method_2_44 : decode prog_131_method_2_code 44 = .ok (.arraylength, 1) := by decide +kernel
theorem d_prog_131_method_2_45 : decode prog_131_method_2_code 45 = .ok (.iconst (-1), 1) := by decide +kernel
theorem d_prog_131_method_2_46 : decode prog_131_method_2_code 46 = .ok (.invokestatic 37, 3) := by decide +kernel
theorem d_prog_131_method_2_49 : decode prog_131_method_2_code 49 = .ok (.aload_n 0, 1) := by decide +kernel
theorem d_prog_131_method_2_50 : decode prog_131_method_2_code 50 = .ok (.getfield 7, 3) := by decide +kernel
theorem d_prog_131_method_2_53 : decode prog_131_method_2_code 53 = .ok (.iload_n 1, 1) := by decide +kernel
theorem d_prog_131_method_2_54 : decode prog_131_method_2_code 54 = .ok (.iaload, 1) := by decide +kernel
theorem d_prog_131_method_2_55 : decode prog_131_method_2_code 55 = .ok (.istore_n 2, 1) := by decide +kernel
theorem d_prog_131_method_2_56 : decode prog_131_method_2_code 56 = .ok (.iload_n 2, 1) := by decide +kernel
theorem d_prog_131_method_2_57 : decode prog_131_method_2_code 57 = .ok (.aload_n 0, 1) := by decide +kernel
theorem d_prog_131_method_2_58 : decode prog_131_method_2_code 58 = .ok (.getfield 22, 3) := by decide +kernel
theorem d_prog_131_method_2_61 : decode prog_131_method_2_code 61 = .ok (.aload_n 0, 1) := by decide +kernel
theorem d_prog_131_method_2_62 : decode prog_131_method_2_code 62 = .ok (.getfield 41, 3) := by decide +kernel
theorem d_prog_131_method_2_65 : decode prog_131_method_2_code 65 = .ok (.iaload, 1) := by decide +kernel
theorem d_prog_131_method_2_66 : decode prog_131_method_2_code 66 = .ok (.if_icmp .lt 23, 3) := by decide +kernel
theorem d_prog_131_method_2_69 : decode prog_131_method_2_code 69 = .ok (.aload_n 0, 1) := by decide +kernel
theorem d_prog_131_method_2_70 : decode prog_131_method_2_code 70 = .ok (.getfield 16, 3) := by decide +kernel
theorem d_prog_131_method_2_73 : decode prog_131_method_2_code 73 = .ok (.iload_n 2, 1) := by decide +kernel
theorem d_prog_131_method_2_74 : decode prog_131_method_2_code 74 = .ok (.dup2, 1) := by decide +kernel
theorem d_prog_131_method_2_75 : decode prog_131_method_2_code 75 = .ok (.iaload, 1) := by decide +kernel
theorem d_prog_131_method_2_76 : decode prog_131_method_2_code 76 = .ok (.iconst 1, 1) := by decide +kernel
theorem d_prog_131_method_2_77 : decode prog_131_method_2_code 77 = .ok (.iadd, 1) := by decide +kernel
theorem d_prog_131_method_2_78 : decode prog_131_method_2_code 78 = .ok (.iastore, 1) := by decide +kernel
theorem d_prog_131_method_2_79 : decode prog_131_method_2_code 79 = .ok (.aload_n 0, 1) := by decide +kernel
theorem d_prog_131_method_2_80 : decode prog_131_method_2_code 80 = .ok (.getfield 16, 3) := by decide +kernel
theorem d_prog_131_method_2_83 : decode prog_131_method_2_code 83 = .ok (.iload_n 2, 1) := by decide +kernel
theorem d_prog_131_method_2_84 : decode prog_131_method_2_code 84 = .ok (.iaload, 1) := by decide +kernel
theorem d_prog_131_method_2_85 : decode prog_131_method_2_code 85 = .ok (.istore_n 3, 1) := by decide +kernel
theorem d_prog_131_method_2_86 : decode prog_131_method_2_code 86 = .ok (.goto 10, 3) := by decide +kernel
theorem d_prog_131_method_2_89 : decode prog_131_method_2_code 89 = .ok (.aload_n 0, 1) := by decide +kernel
theorem d_prog_131_method_2_90 : decode prog_131_method_2_code 90 = .ok (.iload_n 1, 1) := by decide +kernel
theorem d_prog_131_method_2_91 : decode prog_131_method_2_code 91 = .ok (.invokevirtual 45, 3) := by decide +kernel
theorem d_prog_131_method_2_94 : decode prog_131_method_2_code 94 = .ok (.iconst 1, 1) := by decide +kernel
theorem d_prog_131_method_2_95 : decode prog_131_method_2_code 95 = .ok (.istore_n 3, 1) := by decide +kernel
theorem d_prog_131_method_2_96 : decode prog_131_method_2_code 96 = .ok (.iload_n 3, 1) := by decide +kernel
theorem d_prog_131_method_2_97 : decode prog_131_method_2_code 97 = .ok (.ireturn, 1) := by decide +kernel
theorem pd_2 : parseMethodDescriptor "(I)V" = some ⟨[.int], none⟩ := by decide +kernel
theorem pd_3 : parseMethodDescriptor "([II)[I" = some ⟨[(.array .int), .int], some (.array .int)⟩ := by decide +kernel
theorem pd_4 : parseMethodDescriptor "([IIII)V" = some ⟨[(.array .int), .int, .int, .int], none⟩ := by decide +kernel
theorem ef_next (m : MethodId) (xa : Addr) (xl : Int32) : entryFrame m #[(.ref xa), (.int xl)] 4 = mkF m 0 #[.val (.ref xa), .val (.int xl), .unset, .unset] [] := by first | (simp [entryFrame, mkF, argsToLocals, Value.category]; done) | rfl
def Q_next (Z : State) (xa : Addr) (xl : Int32) (ic : List Int32) (cl : List Int32) (cv : List Int32) (hc : List Int32) (fc : List Int32) (cnt : Int32) (dep : Int32) (h0 : Heap) (n0 : Nat) (v : Option Value) (h : Heap) (L : List Loc) : Prop := v = some (.int (nextR (ic, cl, cv, hc, fc, cnt, dep) xl)) ∧ Fr n0 L ∧ SPs Z n0 h xa (nextS (ic, cl, cv, hc, fc, cnt, dep) xl)
set_option maxRecDepth 65536 in
set_option maxHeartbeats 40000000 in
theorem rm_next (l : Launch) (Z : State) (a0 : Array Value) (hw : ∀ d ∈ tables_1, d.before a0 Z = true) (ws : List Jvm.Cond) (xa : Addr) (xl : Int32) (ic : List Int32) (cl : List Int32) (cv : List Int32) (hc : List Int32) (fc : List Int32) (cnt : Int32) (dep : Int32) (h0 : Heap) (n0 : Nat) (Z0 : n0 ≤ h0.size) (hS : SP Z n0 h0 xa ic cl cv hc fc cnt dep) (hok : nextOk (ic, cl, cv, hc, fc, cnt, dep) xl = true) :
    MetFree l (⟨"com/example/orsay/orsay/SiblingPositions", "next", "(I)I"⟩ : MethodName) (head1 (Jvm.Cond.code (⟨"com/example/orsay/orsay/SiblingPositions", "next", "(I)I"⟩ : MethodName) prog_131_method_2_code 4 (some .int) :: ws) ({ frames := 2, cells := 1, slots := 8, locals := 79 } : Room)) (fun a U => a = #[(.ref xa), (.int xl)] ∧ Z.Warmed39 U.vm ∧ U.heap = h0) (fun _ _ _ _ _ => True) (fun _ U o U' => ∃ v L, o = .returned v ∧ Q_next Z xa xl ic cl cv hc fc cnt dep h0 n0 v U'.heap L ∧ FrameEnd U o U' L ({ frames := 2, cells := 1, slots := 8, locals := 79 } : Room).cells ({ frames := 2, cells := 1, slots := 8, locals := 79 } : Room).slots) := by
  refine MetFree.of_bodySF (plainFor_of_name pn_1) hisR ?_
  intro p e s m args below meth c s₁ Bd hml0 hP hK
  obtain ⟨rfl, hZ, hh⟩ := hP
  have hx := Bd.exec
  have hby := Bd.bytes
  have hml : c.maxLocals = 4 := hml0
  have hown : s.vm.findClass "com/example/orsay/orsay/SiblingPositions" = some m.cls := findClass_of_methodNamed Bd.named
  have hnm := (name_of_methodNamed Bd.named Bd.method).1
  have X0 : Stand p l e ({ frames := 2, cells := 1, slots := 8, locals := 79 } : Room) s m #[(.ref xa), (.int xl)] below meth c s₁ [] 0 0 := Stand.of_body Bd
  have e0 : s₁.heap = h0 := by rw [← hh, Bd.state]; rfl
  have N0 := Fr.nil n0
  have pre0 : ∀ t, Steps p.tables e below (s₁.setTop (mkF m 0 #[.val (.ref xa), .val (.int xl), .unset, .unset] [])) t → Steps p.tables e below (s₁.setTop (entryFrame m #[(.ref xa), (.int xl)] 4)) t := fun t k => castTop (ef_next m xa xl) k
  obtain ⟨bi, bl, bv, bh, bf, Ex, Fi, Fl, Fv, Fh, Ff, Fc, Fd, Ai, Al, Av, Ah, Af, ⟨ne01, ne02, ne03, ne04, ne12, ne13, ne14, ne23, ne24, ne34⟩, ⟨ga, g0, g1, g2, g3, g4⟩⟩ := id hS
  obtain ⟨o1, o2, o3, o4⟩ : growOk ic xl = true ∧ inR (grI ic xl) xl = true ∧ inR fc dep = true ∧ (if gI (grI ic xl) xl < gI fc dep then pushOk (grI ic xl, cl, cv, hc, fc, cnt, dep) xl else inR cv (gI (grI ic xl) xl)) = true := by simpa only [nextOk, Bool.and_eq_true] using hok
  have eR : nextR (ic, cl, cv, hc, fc, cnt, dep) xl = if gI (grI ic xl) xl < gI fc dep then 1 else gI (sI cv (gI (grI ic xl) xl) (gI cv (gI (grI ic xl) xl) + 1)) (gI (grI ic xl) xl) := rfl
  have eS : nextS (ic, cl, cv, hc, fc, cnt, dep) xl = if gI (grI ic xl) xl < gI fc dep then pushS (grI ic xl, cl, cv, hc, fc, cnt, dep) xl else (grI ic xl, cl, sI cv (gI (grI ic xl) xl) (gI cv (gI (grI ic xl) xl) + 1), hc, fc, cnt, dep) := rfl
  by_cases hc6 : xl < (Int32.ofNat ic.length)
  · by_cases hc66 : (gI ic xl) < (gI fc dep)
    · rw [show grI ic xl = ic from if_pos hc6] at o2 o4 eR eS
      rw [if_pos hc66] at o4 eR eS
      obtain ⟨T1, X1, e1, st1⟩ := getF X0 hx hZ hown (host := "") (Or.inl (hw _ (List.mem_of_getElem? (i := 10) rfl))) Via.refl e0 Fi (g := (mkF m 2 #[.val (.ref xa), .val (.int xl), .unset, .unset] [(.ref xa), (.int xl)])) rfl rfl (hb hby d_prog_131_method_2_2)
      obtain ⟨cl2, Ar2, ln2⟩ := Ai.ln
      obtain ⟨T3, X3, e3, st3⟩ := getF X1 hx hZ hown (host := "") (Or.inl (hw _ (List.mem_of_getElem? (i := 10) rfl))) Via.refl e1 Fi (g := (mkF m 50 #[.val (.ref xa), .val (.int xl), .unset, .unset] [(.ref xa)])) rfl rfl (hb hby d_prog_131_method_2_50)
      obtain ⟨cl4, Ar4, hin4, hat4, -⟩ := Ai.rd (j := xl) o2
      obtain ⟨T5, X5, e5, st5⟩ := getF X3 hx hZ hown (host := "") (Or.inl (hw _ (List.mem_of_getElem? (i := 18) rfl))) Via.refl e3 Ff (g := (mkF m 58 #[.val (.ref xa), .val (.int xl), .val (.int (gI ic xl)), .unset] [(.ref xa), (.int (gI ic xl))])) rfl rfl (hb hby d_prog_131_method_2_58)
      obtain ⟨T6, X6, e6, st6⟩ := getF X5 hx hZ hown (host := "") (Or.inl (hw _ (List.mem_of_getElem? (i := 46) rfl))) Via.refl e5 Fd (g := (mkF m 62 #[.val (.ref xa), .val (.int xl), .val (.int (gI ic xl)), .unset] [(.ref xa), (.ref bf), (.int (gI ic xl))])) rfl rfl (hb hby d_prog_131_method_2_62)
      obtain ⟨cl7, Ar7, hin7, hat7, -⟩ := Af.rd (j := dep) o3
      have hSp : SP Z n0 h0 xa ic cl cv hc fc cnt dep := ⟨bi, bl, bv, bh, bf, Ex, Fi, Fl, Fv, Fh, Ff, Fc, Fd, Ai, Al, Av, Ah, Af, ⟨ne01, ne02, ne03, ne04, ne12, ne13, ne14, ne23, ne24, ne34⟩, ⟨ga, g0, g1, g2, g3, g4⟩⟩
      obtain ⟨cq8, q8, q8'⟩ := (Ex).cell
      obtain ⟨ci8, ki8, i18, i28, -, i48, -⟩ := Cond.instantiable_spec (mvT (args := #[]) hZ (hw _ (List.mem_of_getElem? (i := 1) rfl)))
      have pv8 := Cond.privateMethod_at (mvP hZ (hw _ (List.mem_of_getElem? (i := 50) rfl)) (args := #[]))
      obtain ⟨_, _, ⟨T8, L8, k8, n8⟩, -, X8, ⟨Lc8, hQ8, l8, y8, z8⟩, st8⟩ := X6.privateBack hx (y := (⟨"com/example/orsay/orsay/SiblingPositions", "push", "(I)V"⟩ : MethodName)) hown (mvT hZ (hw _ (List.mem_of_getElem? (i := 48) rfl))) (mvT hZ (hw _ (List.mem_of_getElem? (i := 49) rfl))) (Jvm.Stand.selects_self_of_private (y := (⟨"com/example/orsay/orsay/SiblingPositions", "push", "(I)V"⟩ : MethodName)) i18 i28 (Bool.or_eq_false_iff.mp i48).1 pv8 (mvT hZ (hw _ (List.mem_of_getElem? (i := 49) rfl))) (by decide)) pv8 (mvT hZ (hw _ (List.mem_of_getElem? (i := 51) rfl))) (by decide) (backOf (W := 0) (rm_push l Z a0 hw [] xa xl ic cl cv hc fc cnt dep h0 n0 Z0 hSp o4) hZ (hw _ (List.mem_of_getElem? (i := 51) rfl)) (hw _ (List.mem_of_getElem? (i := 2) rfl)) (by decide) (by decide)) (g := (mkF m 91 #[.val (.ref xa), .val (.int xl), .val (.int (gI ic xl)), .unset] [(.int xl), (.ref xa)])) rfl (by rw [hml]; rfl) (Steps.refl _) (a := xa) (by rw [e6]; exact q8) q8' (argsL := [(.int xl)]) (rest := []) (lenOf pd_2 rfl) rfl (by show 2 * 0 + _ ≤ _; exact Nat.le_of_eq rfl) (hb hby d_prog_131_method_2_91) (fun _ _ => ⟨rfl, e6, (by decide : 0 + 0 ≤ _), (by decide : 0 + 0 ≤ _)⟩)
      dsimp only [Pt.U, Pt.locs, Pt.cells, Pt.slots] at X8 l8 y8 z8 st8 hQ8
      subst l8 y8 z8
      obtain ⟨rfl, N8q, hS8⟩ := hQ8
      have N8 := Fr.app N0 N8q
      obtain ⟨fs, hr, hrun, hended, hW, hsame⟩ := X8.leave (v := some (.int (nextR (ic, cl, cv, hc, fc, cnt, dep) xl))) (fun h => by rw [Bd.returns] at h; cases h)
      refine ⟨_, _, pre0 _ ?_, hrun, hended, _, _, rfl, ?_, ⟨_, rfl⟩, hW, hsame.mono (by decide) (by decide)⟩
      · show Steps p.tables e below (s₁.setTop (mkF m 0 #[.val (.ref xa), .val (.int xl), .unset, .unset] [])) _
        refine XS.iloadN X0.here hx rfl (hb hby d_prog_131_method_2_0) rfl ?_
        show Steps p.tables e below (s₁.setTop (mkF m 1 #[.val (.ref xa), .val (.int xl), .unset, .unset] [(.int xl)])) _
        refine XS.aloadN X0.here hx rfl (hb hby d_prog_131_method_2_1) rfl rfl ?_
        show Steps p.tables e below (s₁.setTop (mkF m 2 #[.val (.ref xa), .val (.int xl), .unset, .unset] [(.ref xa), (.int xl)])) _
        refine st1 _ ?_
        show Steps p.tables e below (T1.setTop (mkF m 5 #[.val (.ref xa), .val (.int xl), .unset, .unset] [(.ref bi), (.int xl)])) _
        refine X1.arraylength hx (by rw [e1]; exact Ar2.1) (State.isArrayOf_alike hZ.alike Ar2.2.1) (g := (mkF m 5 #[.val (.ref xa), .val (.int xl), .unset, .unset] [(.ref bi), (.int xl)])) rfl rfl (hb hby d_prog_131_method_2_5) _ ?_
        rw [ln2]
        show Steps p.tables e below (T1.setTop (mkF m 6 #[.val (.ref xa), .val (.int xl), .unset, .unset] [(.int (Int32.ofNat ic.length)), (.int xl)])) _
        refine XS.icmpYes X1.here hx rfl (pc0 := 6) (pc' := 49) rfl (hb hby d_prog_131_method_2_6) rfl (tlt hc6).1 (by decide) (by decide) ?_
        show Steps p.tables e below (T1.setTop (mkF m 49 #[.val (.ref xa), .val (.int xl), .unset, .unset] [])) _
        refine XS.aloadN X1.here hx rfl (hb hby d_prog_131_method_2_49) rfl rfl ?_
        show Steps p.tables e below (T1.setTop (mkF m 50 #[.val (.ref xa), .val (.int xl), .unset, .unset] [(.ref xa)])) _
        refine st3 _ ?_
        show Steps p.tables e below (T3.setTop (mkF m 53 #[.val (.ref xa), .val (.int xl), .unset, .unset] [(.ref bi)])) _
        refine XS.iloadN X3.here hx rfl (hb hby d_prog_131_method_2_53) rfl ?_
        show Steps p.tables e below (T3.setTop (mkF m 54 #[.val (.ref xa), .val (.int xl), .unset, .unset] [(.int xl), (.ref bi)])) _
        refine X3.iaload hx (j := xl) (v := (.int (gI ic xl))) (by rw [e3]; exact Ar4.1) (State.isArrayOf_alike hZ.alike Ar4.2.1) Ar4.2.2 hin4 hat4 (g := (mkF m 54 #[.val (.ref xa), .val (.int xl), .unset, .unset] [(.int xl), (.ref bi)])) rfl rfl (hb hby d_prog_131_method_2_54) _ ?_
        show Steps p.tables e below (T3.setTop (mkF m 55 #[.val (.ref xa), .val (.int xl), .unset, .unset] [(.int (gI ic xl))])) _
        refine XS.istoreN X3.here hx rfl (hb hby d_prog_131_method_2_55) rfl (l' := #[.val (.ref xa), .val (.int xl), .val (.int (gI ic xl)), .unset]) rfl ?_
        show Steps p.tables e below (T3.setTop (mkF m 56 #[.val (.ref xa), .val (.int xl), .val (.int (gI ic xl)), .unset] [])) _
        refine XS.iloadN X3.here hx rfl (hb hby d_prog_131_method_2_56) rfl ?_
        show Steps p.tables e below (T3.setTop (mkF m 57 #[.val (.ref xa), .val (.int xl), .val (.int (gI ic xl)), .unset] [(.int (gI ic xl))])) _
        refine XS.aloadN X3.here hx rfl (hb hby d_prog_131_method_2_57) rfl rfl ?_
        show Steps p.tables e below (T3.setTop (mkF m 58 #[.val (.ref xa), .val (.int xl), .val (.int (gI ic xl)), .unset] [(.ref xa), (.int (gI ic xl))])) _
        refine st5 _ ?_
        show Steps p.tables e below (T5.setTop (mkF m 61 #[.val (.ref xa), .val (.int xl), .val (.int (gI ic xl)), .unset] [(.ref bf), (.int (gI ic xl))])) _
        refine XS.aloadN X5.here hx rfl (hb hby d_prog_131_method_2_61) rfl rfl ?_
        show Steps p.tables e below (T5.setTop (mkF m 62 #[.val (.ref xa), .val (.int xl), .val (.int (gI ic xl)), .unset] [(.ref xa), (.ref bf), (.int (gI ic xl))])) _
        refine st6 _ ?_
        show Steps p.tables e below (T6.setTop (mkF m 65 #[.val (.ref xa), .val (.int xl), .val (.int (gI ic xl)), .unset] [(.int dep), (.ref bf), (.int (gI ic xl))])) _
        refine X6.iaload hx (j := dep) (v := (.int (gI fc dep))) (by rw [e6]; exact Ar7.1) (State.isArrayOf_alike hZ.alike Ar7.2.1) Ar7.2.2 hin7 hat7 (g := (mkF m 65 #[.val (.ref xa), .val (.int xl), .val (.int (gI ic xl)), .unset] [(.int dep), (.ref bf), (.int (gI ic xl))])) rfl rfl (hb hby d_prog_131_method_2_65) _ ?_
        show Steps p.tables e below (T6.setTop (mkF m 66 #[.val (.ref xa), .val (.int xl), .val (.int (gI ic xl)), .unset] [(.int (gI fc dep)), (.int (gI ic xl))])) _
        refine XS.icmpYes X6.here hx rfl (pc0 := 66) (pc' := 89) rfl (hb hby d_prog_131_method_2_66) rfl (tlt hc66).1 (by decide) (by decide) ?_
        show Steps p.tables e below (T6.setTop (mkF m 89 #[.val (.ref xa), .val (.int xl), .val (.int (gI ic xl)), .unset] [])) _
        refine XS.aloadN X6.here hx rfl (hb hby d_prog_131_method_2_89) rfl rfl ?_
        show Steps p.tables e below (T6.setTop (mkF m 90 #[.val (.ref xa), .val (.int xl), .val (.int (gI ic xl)), .unset] [(.ref xa)])) _
        refine XS.iloadN X6.here hx rfl (hb hby d_prog_131_method_2_90) rfl ?_
        show Steps p.tables e below (T6.setTop (mkF m 91 #[.val (.ref xa), .val (.int xl), .val (.int (gI ic xl)), .unset] [(.int xl), (.ref xa)])) _
        refine st8.trans ?_
        show Steps p.tables e below (T8.setTop (mkF m 94 #[.val (.ref xa), .val (.int xl), .val (.int (gI ic xl)), .unset] [])) _
        refine XS.iconst X8.here hx rfl (hb hby d_prog_131_method_2_94) ?_
        show Steps p.tables e below (T8.setTop (mkF m 95 #[.val (.ref xa), .val (.int xl), .val (.int (gI ic xl)), .unset] [(.int (1 : Int32))])) _
        refine XS.istoreN X8.here hx rfl (hb hby d_prog_131_method_2_95) rfl (l' := #[.val (.ref xa), .val (.int xl), .val (.int (gI ic xl)), .val (.int (1 : Int32))]) rfl ?_
        show Steps p.tables e below (T8.setTop (mkF m 96 #[.val (.ref xa), .val (.int xl), .val (.int (gI ic xl)), .val (.int (1 : Int32))] [])) _
        refine XS.iloadN X8.here hx rfl (hb hby d_prog_131_method_2_96) rfl ?_
        show Steps p.tables e below (T8.setTop (mkF m 97 #[.val (.ref xa), .val (.int xl), .val (.int (gI ic xl)), .val (.int (1 : Int32))] [(.int (1 : Int32))])) _
        exact retI X8 hx Bd.returns (hb hby d_prog_131_method_2_97) (by rw [show (1 : Int32) = (nextR (ic, cl, cv, hc, fc, cnt, dep) xl) from eR.symm]; exact hr)
      · show Q_next Z xa xl ic cl cv hc fc cnt dep h0 n0 _ T8.heap _
        exact ⟨rfl, N8, (by rw [eS]; exact hS8)⟩
    · rw [show grI ic xl = ic from if_pos hc6] at o2 o4 eR eS
      rw [if_neg hc66] at o4 eR eS
      obtain ⟨T9, X9, e9, st9⟩ := getF X0 hx hZ hown (host := "") (Or.inl (hw _ (List.mem_of_getElem? (i := 10) rfl))) Via.refl e0 Fi (g := (mkF m 2 #[.val (.ref xa), .val (.int xl), .unset, .unset] [(.ref xa), (.int xl)])) rfl rfl (hb hby d_prog_131_method_2_2)
      obtain ⟨cl10, Ar10, ln10⟩ := Ai.ln
      obtain ⟨T11, X11, e11, st11⟩ := getF X9 hx hZ hown (host := "") (Or.inl (hw _ (List.mem_of_getElem? (i := 10) rfl))) Via.refl e9 Fi (g := (mkF m 50 #[.val (.ref xa), .val (.int xl), .unset, .unset] [(.ref xa)])) rfl rfl (hb hby d_prog_131_method_2_50)
      obtain ⟨cl12, Ar12, hin12, hat12, -⟩ := Ai.rd (j := xl) o2
      obtain ⟨T13, X13, e13, st13⟩ := getF X11 hx hZ hown (host := "") (Or.inl (hw _ (List.mem_of_getElem? (i := 18) rfl))) Via.refl e11 Ff (g := (mkF m 58 #[.val (.ref xa), .val (.int xl), .val (.int (gI ic xl)), .unset] [(.ref xa), (.int (gI ic xl))])) rfl rfl (hb hby d_prog_131_method_2_58)
      obtain ⟨T14, X14, e14, st14⟩ := getF X13 hx hZ hown (host := "") (Or.inl (hw _ (List.mem_of_getElem? (i := 46) rfl))) Via.refl e13 Fd (g := (mkF m 62 #[.val (.ref xa), .val (.int xl), .val (.int (gI ic xl)), .unset] [(.ref xa), (.ref bf), (.int (gI ic xl))])) rfl rfl (hb hby d_prog_131_method_2_62)
      obtain ⟨cl15, Ar15, hin15, hat15, -⟩ := Af.rd (j := dep) o3
      obtain ⟨T16, X16, e16, st16⟩ := getF X14 hx hZ hown (host := "") (Or.inl (hw _ (List.mem_of_getElem? (i := 14) rfl))) Via.refl e14 Fv (g := (mkF m 70 #[.val (.ref xa), .val (.int xl), .val (.int (gI ic xl)), .unset] [(.ref xa)])) rfl rfl (hb hby d_prog_131_method_2_70)
      obtain ⟨cl17, Ar17, hin17, hat17, -⟩ := Av.rd (j := (gI ic xl)) o4
      obtain ⟨cl18, Ar18, hin18, -, u18⟩ := Av.rd (j := (gI ic xl)) o4
      obtain ⟨T18, h18, X18, e18, W18, st18⟩ := stI X16 hx hZ e16 Ar18 (j := (gI ic xl)) hin18 (g := (mkF m 78 #[.val (.ref xa), .val (.int xl), .val (.int (gI ic xl)), .unset] [(.int ((gI cv (gI ic xl)) + (1 : Int32))), (.int (gI ic xl)), (.ref bv)])) rfl rfl (hb hby d_prog_131_method_2_78)
      have F18_innermostCount := Fi.other W18 (Or.inl (Av.neE Ex (hw _ (List.mem_of_getElem? (i := 1) rfl))))
      have F18_countLabel := Fl.other W18 (Or.inl (Av.neE Ex (hw _ (List.mem_of_getElem? (i := 1) rfl))))
      have F18_countValue := Fv.other W18 (Or.inl (Av.neE Ex (hw _ (List.mem_of_getElem? (i := 1) rfl))))
      have F18_hiddenCount := Fh.other W18 (Or.inl (Av.neE Ex (hw _ (List.mem_of_getElem? (i := 1) rfl))))
      have F18_firstCount := Ff.other W18 (Or.inl (Av.neE Ex (hw _ (List.mem_of_getElem? (i := 1) rfl))))
      have F18_counts := Fc.other W18 (Or.inl (Av.neE Ex (hw _ (List.mem_of_getElem? (i := 1) rfl))))
      have F18_depth := Fd.other W18 (Or.inl (Av.neE Ex (hw _ (List.mem_of_getElem? (i := 1) rfl))))
      have Ex18_xa := Ex.wr W18
      have A18_bi := Ai.other W18 ne02
      have A18_bl := Al.other W18 ne12
      have A18_bv := u18 _ _ W18
      have A18_bh := Ah.other W18 (Ne.symm ne23)
      have A18_bf := Af.other W18 (Ne.symm ne24)
      have N18 := Fr.snoc X18 N0 g2
      obtain ⟨T19, X19, e19, st19⟩ := getF X18 hx hZ hown (host := "") (Or.inl (hw _ (List.mem_of_getElem? (i := 14) rfl))) Via.refl e18 F18_countValue (g := (mkF m 80 #[.val (.ref xa), .val (.int xl), .val (.int (gI ic xl)), .unset] [(.ref xa)])) rfl rfl (hb hby d_prog_131_method_2_80)
      obtain ⟨cl20, Ar20, hin20, hat20, -⟩ := A18_bv.rd (j := (gI ic xl)) (inR_sI o4)
      obtain ⟨fs, hr, hrun, hended, hW, hsame⟩ := X19.leave (v := some (.int (nextR (ic, cl, cv, hc, fc, cnt, dep) xl))) (fun h => by rw [Bd.returns] at h; cases h)
      refine ⟨_, _, pre0 _ ?_, hrun, hended, _, _, rfl, ?_, ⟨_, rfl⟩, hW, hsame.mono (by decide) (by decide)⟩
      · show Steps p.tables e below (s₁.setTop (mkF m 0 #[.val (.ref xa), .val (.int xl), .unset, .unset] [])) _
        refine XS.iloadN X0.here hx rfl (hb hby d_prog_131_method_2_0) rfl ?_
        show Steps p.tables e below (s₁.setTop (mkF m 1 #[.val (.ref xa), .val (.int xl), .unset, .unset] [(.int xl)])) _
        refine XS.aloadN X0.here hx rfl (hb hby d_prog_131_method_2_1) rfl rfl ?_
        show Steps p.tables e below (s₁.setTop (mkF m 2 #[.val (.ref xa), .val (.int xl), .unset, .unset] [(.ref xa), (.int xl)])) _
        refine st9 _ ?_
        show Steps p.tables e below (T9.setTop (mkF m 5 #[.val (.ref xa), .val (.int xl), .unset, .unset] [(.ref bi), (.int xl)])) _
        refine X9.arraylength hx (by rw [e9]; exact Ar10.1) (State.isArrayOf_alike hZ.alike Ar10.2.1) (g := (mkF m 5 #[.val (.ref xa), .val (.int xl), .unset, .unset] [(.ref bi), (.int xl)])) rfl rfl (hb hby d_prog_131_method_2_5) _ ?_
        rw [ln10]
        show Steps p.tables e below (T9.setTop (mkF m 6 #[.val (.ref xa), .val (.int xl), .unset, .unset] [(.int (Int32.ofNat ic.length)), (.int xl)])) _
        refine XS.icmpYes X9.here hx rfl (pc0 := 6) (pc' := 49) rfl (hb hby d_prog_131_method_2_6) rfl (tlt hc6).1 (by decide) (by decide) ?_
        show Steps p.tables e below (T9.setTop (mkF m 49 #[.val (.ref xa), .val (.int xl), .unset, .unset] [])) _
        refine XS.aloadN X9.here hx rfl (hb hby d_prog_131_method_2_49) rfl rfl ?_
        show Steps p.tables e below (T9.setTop (mkF m 50 #[.val (.ref xa), .val (.int xl), .unset, .unset] [(.ref xa)])) _
        refine st11 _ ?_
        show Steps p.tables e below (T11.setTop (mkF m 53 #[.val (.ref xa), .val (.int xl), .unset, .unset] [(.ref bi)])) _
        refine XS.iloadN X11.here hx rfl (hb hby d_prog_131_method_2_53) rfl ?_
        show Steps p.tables e below (T11.setTop (mkF m 54 #[.val (.ref xa), .val (.int xl), .unset, .unset] [(.int xl), (.ref bi)])) _
        refine X11.iaload hx (j := xl) (v := (.int (gI ic xl))) (by rw [e11]; exact Ar12.1) (State.isArrayOf_alike hZ.alike Ar12.2.1) Ar12.2.2 hin12 hat12 (g := (mkF m 54 #[.val (.ref xa), .val (.int xl), .unset, .unset] [(.int xl), (.ref bi)])) rfl rfl (hb hby d_prog_131_method_2_54) _ ?_
        show Steps p.tables e below (T11.setTop (mkF m 55 #[.val (.ref xa), .val (.int xl), .unset, .unset] [(.int (gI ic xl))])) _
        refine XS.istoreN X11.here hx rfl (hb hby d_prog_131_method_2_55) rfl (l' := #[.val (.ref xa), .val (.int xl), .val (.int (gI ic xl)), .unset]) rfl ?_
        show Steps p.tables e below (T11.setTop (mkF m 56 #[.val (.ref xa), .val (.int xl), .val (.int (gI ic xl)), .unset] [])) _
        refine XS.iloadN X11.here hx rfl (hb hby d_prog_131_method_2_56) rfl ?_
        show Steps p.tables e below (T11.setTop (mkF m 57 #[.val (.ref xa), .val (.int xl), .val (.int (gI ic xl)), .unset] [(.int (gI ic xl))])) _
        refine XS.aloadN X11.here hx rfl (hb hby d_prog_131_method_2_57) rfl rfl ?_
        show Steps p.tables e below (T11.setTop (mkF m 58 #[.val (.ref xa), .val (.int xl), .val (.int (gI ic xl)), .unset] [(.ref xa), (.int (gI ic xl))])) _
        refine st13 _ ?_
        show Steps p.tables e below (T13.setTop (mkF m 61 #[.val (.ref xa), .val (.int xl), .val (.int (gI ic xl)), .unset] [(.ref bf), (.int (gI ic xl))])) _
        refine XS.aloadN X13.here hx rfl (hb hby d_prog_131_method_2_61) rfl rfl ?_
        show Steps p.tables e below (T13.setTop (mkF m 62 #[.val (.ref xa), .val (.int xl), .val (.int (gI ic xl)), .unset] [(.ref xa), (.ref bf), (.int (gI ic xl))])) _
        refine st14 _ ?_
        show Steps p.tables e below (T14.setTop (mkF m 65 #[.val (.ref xa), .val (.int xl), .val (.int (gI ic xl)), .unset] [(.int dep), (.ref bf), (.int (gI ic xl))])) _
        refine X14.iaload hx (j := dep) (v := (.int (gI fc dep))) (by rw [e14]; exact Ar15.1) (State.isArrayOf_alike hZ.alike Ar15.2.1) Ar15.2.2 hin15 hat15 (g := (mkF m 65 #[.val (.ref xa), .val (.int xl), .val (.int (gI ic xl)), .unset] [(.int dep), (.ref bf), (.int (gI ic xl))])) rfl rfl (hb hby d_prog_131_method_2_65) _ ?_
        show Steps p.tables e below (T14.setTop (mkF m 66 #[.val (.ref xa), .val (.int xl), .val (.int (gI ic xl)), .unset] [(.int (gI fc dep)), (.int (gI ic xl))])) _
        refine XS.icmpNo X14.here hx rfl (hb hby d_prog_131_method_2_66) rfl (flt hc66).1 ?_
        show Steps p.tables e below (T14.setTop (mkF m 69 #[.val (.ref xa), .val (.int xl), .val (.int (gI ic xl)), .unset] [])) _
        refine XS.aloadN X14.here hx rfl (hb hby d_prog_131_method_2_69) rfl rfl ?_
        show Steps p.tables e below (T14.setTop (mkF m 70 #[.val (.ref xa), .val (.int xl), .val (.int (gI ic xl)), .unset] [(.ref xa)])) _
        refine st16 _ ?_
        show Steps p.tables e below (T16.setTop (mkF m 73 #[.val (.ref xa), .val (.int xl), .val (.int (gI ic xl)), .unset] [(.ref bv)])) _
        refine XS.iloadN X16.here hx rfl (hb hby d_prog_131_method_2_73) rfl ?_
        show Steps p.tables e below (T16.setTop (mkF m 74 #[.val (.ref xa), .val (.int xl), .val (.int (gI ic xl)), .unset] [(.int (gI ic xl)), (.ref bv)])) _
        jvm_step X16.here [X16.here.top, hx, (hb hby d_prog_131_method_2_74), Value.category]
        show Steps p.tables e below (T16.setTop (mkF m 75 #[.val (.ref xa), .val (.int xl), .val (.int (gI ic xl)), .unset] [(.int (gI ic xl)), (.ref bv), (.int (gI ic xl)), (.ref bv)])) _
        refine X16.iaload hx (j := (gI ic xl)) (v := (.int (gI cv (gI ic xl)))) (by rw [e16]; exact Ar17.1) (State.isArrayOf_alike hZ.alike Ar17.2.1) Ar17.2.2 hin17 hat17 (g := (mkF m 75 #[.val (.ref xa), .val (.int xl), .val (.int (gI ic xl)), .unset] [(.int (gI ic xl)), (.ref bv), (.int (gI ic xl)), (.ref bv)])) rfl rfl (hb hby d_prog_131_method_2_75) _ ?_
        show Steps p.tables e below (T16.setTop (mkF m 76 #[.val (.ref xa), .val (.int xl), .val (.int (gI ic xl)), .unset] [(.int (gI cv (gI ic xl))), (.int (gI ic xl)), (.ref bv)])) _
        refine XS.iconst X16.here hx rfl (hb hby d_prog_131_method_2_76) ?_
        show Steps p.tables e below (T16.setTop (mkF m 77 #[.val (.ref xa), .val (.int xl), .val (.int (gI ic xl)), .unset] [(.int (1 : Int32)), (.int (gI cv (gI ic xl))), (.int (gI ic xl)), (.ref bv)])) _
        refine XS.iadd X16.here hx rfl (hb hby d_prog_131_method_2_77) rfl ?_
        show Steps p.tables e below (T16.setTop (mkF m 78 #[.val (.ref xa), .val (.int xl), .val (.int (gI ic xl)), .unset] [(.int ((gI cv (gI ic xl)) + (1 : Int32))), (.int (gI ic xl)), (.ref bv)])) _
        refine st18 _ ?_
        show Steps p.tables e below (T18.setTop (mkF m 79 #[.val (.ref xa), .val (.int xl), .val (.int (gI ic xl)), .unset] [])) _
        refine XS.aloadN X18.here hx rfl (hb hby d_prog_131_method_2_79) rfl rfl ?_
        show Steps p.tables e below (T18.setTop (mkF m 80 #[.val (.ref xa), .val (.int xl), .val (.int (gI ic xl)), .unset] [(.ref xa)])) _
        refine st19 _ ?_
        show Steps p.tables e below (T19.setTop (mkF m 83 #[.val (.ref xa), .val (.int xl), .val (.int (gI ic xl)), .unset] [(.ref bv)])) _
        refine XS.iloadN X19.here hx rfl (hb hby d_prog_131_method_2_83) rfl ?_
        show Steps p.tables e below (T19.setTop (mkF m 84 #[.val (.ref xa), .val (.int xl), .val (.int (gI ic xl)), .unset] [(.int (gI ic xl)), (.ref bv)])) _
        refine X19.iaload hx (j := (gI ic xl)) (v := (.int (gI (sI cv (gI ic xl) ((gI cv (gI ic xl)) + (1 : Int32))) (gI ic xl)))) (by rw [e19]; exact Ar20.1) (State.isArrayOf_alike hZ.alike Ar20.2.1) Ar20.2.2 hin20 hat20 (g := (mkF m 84 #[.val (.ref xa), .val (.int xl), .val (.int (gI ic xl)), .unset] [(.int (gI ic xl)), (.ref bv)])) rfl rfl (hb hby d_prog_131_method_2_84) _ ?_
        show Steps p.tables e below (T19.setTop (mkF m 85 #[.val (.ref xa), .val (.int xl), .val (.int (gI ic xl)), .unset] [(.int (gI (sI cv (gI ic xl) ((gI cv (gI ic xl)) + (1 : Int32))) (gI ic xl)))])) _
        refine XS.istoreN X19.here hx rfl (hb hby d_prog_131_method_2_85) rfl (l' := #[.val (.ref xa), .val (.int xl), .val (.int (gI ic xl)), .val (.int (gI (sI cv (gI ic xl) ((gI cv (gI ic xl)) + (1 : Int32))) (gI ic xl)))]) rfl ?_
        show Steps p.tables e below (T19.setTop (mkF m 86 #[.val (.ref xa), .val (.int xl), .val (.int (gI ic xl)), .val (.int (gI (sI cv (gI ic xl) ((gI cv (gI ic xl)) + (1 : Int32))) (gI ic xl)))] [])) _
        refine XS.goto X19.here hx rfl (pc0 := 86) (pc' := 96) rfl (hb hby d_prog_131_method_2_86) (by decide) (by decide) ?_
        show Steps p.tables e below (T19.setTop (mkF m 96 #[.val (.ref xa), .val (.int xl), .val (.int (gI ic xl)), .val (.int (gI (sI cv (gI ic xl) ((gI cv (gI ic xl)) + (1 : Int32))) (gI ic xl)))] [])) _
        refine XS.iloadN X19.here hx rfl (hb hby d_prog_131_method_2_96) rfl ?_
        show Steps p.tables e below (T19.setTop (mkF m 97 #[.val (.ref xa), .val (.int xl), .val (.int (gI ic xl)), .val (.int (gI (sI cv (gI ic xl) ((gI cv (gI ic xl)) + (1 : Int32))) (gI ic xl)))] [(.int (gI (sI cv (gI ic xl) ((gI cv (gI ic xl)) + (1 : Int32))) (gI ic xl)))])) _
        exact retI X19 hx Bd.returns (hb hby d_prog_131_method_2_97) (by rw [show (gI (sI cv (gI ic xl) ((gI cv (gI ic xl)) + (1 : Int32))) (gI ic xl)) = (nextR (ic, cl, cv, hc, fc, cnt, dep) xl) from eR.symm]; exact hr)
      · show Q_next Z xa xl ic cl cv hc fc cnt dep h0 n0 _ T19.heap _
        rw [e19]
        exact ⟨rfl, N18, (by rw [eS]; exact (show SP Z n0 _ xa _ cl _ hc fc cnt dep from ⟨bi, bl, bv, bh, bf, Ex18_xa, F18_innermostCount, F18_countLabel, F18_countValue, F18_hiddenCount, F18_firstCount, F18_counts, F18_depth, A18_bi, A18_bl, A18_bv, A18_bh, A18_bf, ⟨ne01, ne02, ne03, ne04, ne12, ne13, ne14, ne23, ne24, ne34⟩, ⟨ga, g0, g1, g2, g3, g4⟩⟩))⟩
  · by_cases hc66 : (gI (growF ic xl) xl) < (gI fc dep)
    · rw [show grI ic xl = growF ic xl from if_neg hc6] at o2 o4 eR eS
      have hicl := Ai.1
      obtain ⟨hg1, hg2⟩ := grow_facts hicl o1 hc6
      rw [if_pos hc66] at o4 eR eS
      obtain ⟨T21, X21, e21, st21⟩ := getF X0 hx hZ hown (host := "") (Or.inl (hw _ (List.mem_of_getElem? (i := 10) rfl))) Via.refl e0 Fi (g := (mkF m 2 #[.val (.ref xa), .val (.int xl), .unset, .unset] [(.ref xa), (.int xl)])) rfl rfl (hb hby d_prog_131_method_2_2)
      obtain ⟨cl22, Ar22, ln22⟩ := Ai.ln
      obtain ⟨T23, X23, e23, st23⟩ := getF X21 hx hZ hown (host := "") (Or.inl (hw _ (List.mem_of_getElem? (i := 10) rfl))) Via.refl e21 Fi (g := (mkF m 10 #[.val (.ref xa), .val (.int xl), .unset, .unset] [(.ref xa)])) rfl rfl (hb hby d_prog_131_method_2_10)
      obtain ⟨cl24, Ar24, ln24⟩ := Ai.ln
      obtain ⟨T25, X25, e25, st25⟩ := getF X23 hx hZ hown (host := "") (Or.inl (hw _ (List.mem_of_getElem? (i := 10) rfl))) Via.refl e23 Fi (g := (mkF m 17 #[.val (.ref xa), .val (.int xl), .val (.int (Int32.ofNat ic.length)), .unset] [(.ref xa), (.ref xa)])) rfl rfl (hb hby d_prog_131_method_2_17)
      obtain ⟨_, _, ⟨T26, L26, k26, n26⟩, -, X26, ⟨Lc26, hQ26, l26, y26, z26⟩, st26⟩ := Jvm.LawKit.callS X25 hx (y := (⟨"java/lang/Math", "max", "(II)I"⟩ : MethodName)) hown (mvT hZ (hw _ (List.mem_of_getElem? (i := 25) rfl))) (mvT hZ (hw _ (List.mem_of_getElem? (i := 26) rfl))) (mvT hZ (hw _ (List.mem_of_getElem? (i := 27) rfl))) (mvT hZ (hw _ (List.mem_of_getElem? (i := 28) rfl))) (by decide) (backOf (W := 2) (rm_max l Z a0 hw [] ((2 : Int32) * (Int32.ofNat ic.length)) (xl + (1 : Int32)) h0 n0 Z0 ) hZ (hw _ (List.mem_of_getElem? (i := 28) rfl)) (hw _ (List.mem_of_getElem? (i := 27) rfl)) (by decide) (by decide)) (g := (mkF m 26 #[.val (.ref xa), .val (.int xl), .val (.int (Int32.ofNat ic.length)), .unset] [(.int (xl + (1 : Int32))), (.int ((2 : Int32) * (Int32.ofNat ic.length))), (.ref bi), (.ref xa)])) rfl (by rw [hml]; rfl) (argsL := [(.int ((2 : Int32) * (Int32.ofNat ic.length))), (.int (xl + (1 : Int32)))]) (rest := [(.ref bi), (.ref xa)]) (lenOf pd_0 rfl) rfl (by show 2 * 0 + _ ≤ _; exact Nat.le_of_eq rfl) (hb hby d_prog_131_method_2_26) (fun _ _ => ⟨rfl, e25, (by decide : 0 + 0 ≤ _), (by decide : 0 + 0 ≤ _)⟩)
      dsimp only [Pt.U, Pt.locs, Pt.cells, Pt.slots] at X26 l26 y26 z26 st26 hQ26
      subst l26 y26 z26
      obtain ⟨rfl, N26q, e26⟩ := hQ26
      have N26 := Fr.app N0 N26q
      obtain ⟨_, _, ⟨T27, L27, k27, n27⟩, -, X27, ⟨Lc27, hQ27, l27, y27, z27⟩, st27⟩ := Jvm.LawKit.callS X26 hx (y := (⟨"java/util/Arrays", "copyOf", "([II)[I"⟩ : MethodName)) hown (mvT hZ (hw _ (List.mem_of_getElem? (i := 29) rfl))) (mvT hZ (hw _ (List.mem_of_getElem? (i := 30) rfl))) (mvT hZ (hw _ (List.mem_of_getElem? (i := 31) rfl))) (mvT hZ (hw _ (List.mem_of_getElem? (i := 32) rfl))) (by decide) (backOf (W := 1) (rm_cpy l Z a0 hw [] bi (capF ic xl) ic h0 n0 Z0 Ai hg1 hg2) hZ (hw _ (List.mem_of_getElem? (i := 32) rfl)) (hw _ (List.mem_of_getElem? (i := 31) rfl)) (by decide) (by decide)) (g := (mkF m 29 #[.val (.ref xa), .val (.int xl), .val (.int (Int32.ofNat ic.length)), .unset] [(.int (capF ic xl)), (.ref bi), (.ref xa)])) rfl (by rw [hml]; rfl) (argsL := [(.ref bi), (.int (capF ic xl))]) (rest := [(.ref xa)]) (lenOf pd_3 rfl) rfl (by show 2 * 0 + _ ≤ _; exact Nat.le_of_eq rfl) (hb hby d_prog_131_method_2_29) (fun _ _ => ⟨rfl, e26, (by decide : 0 + 1 ≤ _), (by decide : 0 + 8 ≤ _)⟩)
      dsimp only [Pt.U, Pt.locs, Pt.cells, Pt.slots] at X27 l27 y27 z27 st27 hQ27
      subst l27 y27 z27
      obtain ⟨rfl, N27q, K27, Ac27⟩ := hQ27
      have N27 := Fr.app N26 N27q
      obtain ⟨b27, g27⟩ : ∃ z, z = h0.size := ⟨_, rfl⟩
      rw [← g27] at Ac27 st27
      have g_b27 : n0 ≤ b27 := Nat.le_trans Z0 (Nat.le_of_eq g27.symm)
      have ne_bi_b27 : bi ≠ b27 := Nat.ne_of_lt (Nat.lt_of_lt_of_le Ai.lt (Nat.le_of_eq g27.symm))
      have ne_bl_b27 : bl ≠ b27 := Nat.ne_of_lt (Nat.lt_of_lt_of_le Al.lt (Nat.le_of_eq g27.symm))
      have ne_bv_b27 : bv ≠ b27 := Nat.ne_of_lt (Nat.lt_of_lt_of_le Av.lt (Nat.le_of_eq g27.symm))
      have ne_bh_b27 : bh ≠ b27 := Nat.ne_of_lt (Nat.lt_of_lt_of_le Ah.lt (Nat.le_of_eq g27.symm))
      have ne_bf_b27 : bf ≠ b27 := Nat.ne_of_lt (Nat.lt_of_lt_of_le Af.lt (Nat.le_of_eq g27.symm))
      have F27_innermostCount := Fi.keep K27 nin0
      have F27_countLabel := Fl.keep K27 nin0
      have F27_countValue := Fv.keep K27 nin0
      have F27_hiddenCount := Fh.keep K27 nin0
      have F27_firstCount := Ff.keep K27 nin0
      have F27_counts := Fc.keep K27 nin0
      have F27_depth := Fd.keep K27 nin0
      have Ex27_xa := Ex.keep K27
      have A27_bi := Ai.keep K27 nin0
      have A27_bl := Al.keep K27 nin0
      have A27_bv := Av.keep K27 nin0
      have A27_bh := Ah.keep K27 nin0
      have A27_bf := Af.keep K27 nin0
      obtain ⟨T28, h28, X28, e28, W28, st28⟩ := putF X27 hx hZ hown (host := "") (Or.inl (hw _ (List.mem_of_getElem? (i := 10) rfl))) Via.refl rfl F27_innermostCount Ex27_xa (Or.inl (hw _ (List.mem_of_getElem? (i := 11) rfl))) (hw _ (List.mem_of_getElem? (i := 1) rfl)) (ty := (.array .int)) (by decide) rfl rfl (g := (mkF m 32 #[.val (.ref xa), .val (.int xl), .val (.int (Int32.ofNat ic.length)), .unset] [(.ref b27), (.ref xa)])) rfl rfl (hb hby d_prog_131_method_2_32)
      have F28_innermostCount := F27_innermostCount.same W28
      have F28_countLabel := F27_countLabel.other W28 (Or.inr (slot_ne (Or.inl (hw _ (List.mem_of_getElem? (i := 13) rfl))) (Or.inl (hw _ (List.mem_of_getElem? (i := 11) rfl))) (by decide) (t := (.array .int)) (t' := (.array .int)) (by decide) (by decide)))
      have F28_countValue := F27_countValue.other W28 (Or.inr (slot_ne (Or.inl (hw _ (List.mem_of_getElem? (i := 15) rfl))) (Or.inl (hw _ (List.mem_of_getElem? (i := 11) rfl))) (by decide) (t := (.array .int)) (t' := (.array .int)) (by decide) (by decide)))
      have F28_hiddenCount := F27_hiddenCount.other W28 (Or.inr (slot_ne (Or.inl (hw _ (List.mem_of_getElem? (i := 17) rfl))) (Or.inl (hw _ (List.mem_of_getElem? (i := 11) rfl))) (by decide) (t := (.array .int)) (t' := (.array .int)) (by decide) (by decide)))
      have F28_firstCount := F27_firstCount.other W28 (Or.inr (slot_ne (Or.inl (hw _ (List.mem_of_getElem? (i := 19) rfl))) (Or.inl (hw _ (List.mem_of_getElem? (i := 11) rfl))) (by decide) (t := (.array .int)) (t' := (.array .int)) (by decide) (by decide)))
      have F28_counts := F27_counts.other W28 (Or.inr (slot_ne (Or.inl (hw _ (List.mem_of_getElem? (i := 53) rfl))) (Or.inl (hw _ (List.mem_of_getElem? (i := 11) rfl))) (by decide) (t := .int) (t' := (.array .int)) (by decide) (by decide)))
      have F28_depth := F27_depth.other W28 (Or.inr (slot_ne (Or.inl (hw _ (List.mem_of_getElem? (i := 47) rfl))) (Or.inl (hw _ (List.mem_of_getElem? (i := 11) rfl))) (by decide) (t := .int) (t' := (.array .int)) (by decide) (by decide)))
      have Ex28_xa := Ex27_xa.wr W28
      have A28_bi := A27_bi.other W28 (Ne.symm (A27_bi.neE Ex27_xa (hw _ (List.mem_of_getElem? (i := 1) rfl))))
      have A28_bl := A27_bl.other W28 (Ne.symm (A27_bl.neE Ex27_xa (hw _ (List.mem_of_getElem? (i := 1) rfl))))
      have A28_bv := A27_bv.other W28 (Ne.symm (A27_bv.neE Ex27_xa (hw _ (List.mem_of_getElem? (i := 1) rfl))))
      have A28_bh := A27_bh.other W28 (Ne.symm (A27_bh.neE Ex27_xa (hw _ (List.mem_of_getElem? (i := 1) rfl))))
      have A28_bf := A27_bf.other W28 (Ne.symm (A27_bf.neE Ex27_xa (hw _ (List.mem_of_getElem? (i := 1) rfl))))
      have A28_b27 := Ac27.other W28 (Ne.symm (Ac27.neE Ex27_xa (hw _ (List.mem_of_getElem? (i := 1) rfl))))
      have N28 := Fr.snoc X28 N27 ga
      obtain ⟨T29, X29, e29, st29⟩ := getF X28 hx hZ hown (host := "") (Or.inl (hw _ (List.mem_of_getElem? (i := 10) rfl))) Via.refl e28 F28_innermostCount (g := (mkF m 36 #[.val (.ref xa), .val (.int xl), .val (.int (Int32.ofNat ic.length)), .unset] [(.ref xa)])) rfl rfl (hb hby d_prog_131_method_2_36)
      obtain ⟨T30, X30, e30, st30⟩ := getF X29 hx hZ hown (host := "") (Or.inl (hw _ (List.mem_of_getElem? (i := 10) rfl))) Via.refl e29 F28_innermostCount (g := (mkF m 41 #[.val (.ref xa), .val (.int xl), .val (.int (Int32.ofNat ic.length)), .unset] [(.ref xa), (.int (Int32.ofNat ic.length)), (.ref b27)])) rfl rfl (hb hby d_prog_131_method_2_41)
      obtain ⟨cl31, Ar31, ln31⟩ := A28_b27.ln
      obtain ⟨_, _, ⟨T32, L32, k32, n32⟩, -, X32, ⟨Lc32, hQ32, l32, y32, z32⟩, st32⟩ := Jvm.LawKit.callS X30 hx (y := (⟨"java/util/Arrays", "fill", "([IIII)V"⟩ : MethodName)) hown (mvT hZ (hw _ (List.mem_of_getElem? (i := 40) rfl))) (mvT hZ (hw _ (List.mem_of_getElem? (i := 41) rfl))) (mvT hZ (hw _ (List.mem_of_getElem? (i := 31) rfl))) (mvT hZ (hw _ (List.mem_of_getElem? (i := 42) rfl))) (by decide) (backOf (W := 0) (rm_fill l Z a0 hw [] b27 (Int32.ofNat ic.length) (Int32.ofNat (cpyF ic (capF ic xl)).length) (-1 : Int32) (cpyF ic (capF ic xl)) ((capF ic xl).toNatClampNeg - ic.length) h28 n0 (Nat.le_trans (Nat.le_trans Z0 K27.1) (Keep.of_wr W28).1) A28_b27 g_b27 (own_nneg hicl) (fill_k hicl hg1 hg2) rfl) hZ (hw _ (List.mem_of_getElem? (i := 42) rfl)) (hw _ (List.mem_of_getElem? (i := 31) rfl)) (by decide) (by decide)) (g := (mkF m 46 #[.val (.ref xa), .val (.int xl), .val (.int (Int32.ofNat ic.length)), .unset] [(.int (-1 : Int32)), (.int (Int32.ofNat (cpyF ic (capF ic xl)).length)), (.int (Int32.ofNat ic.length)), (.ref b27)])) rfl (by rw [hml]; rfl) (argsL := [(.ref b27), (.int (Int32.ofNat ic.length)), (.int (Int32.ofNat (cpyF ic (capF ic xl)).length)), (.int (-1 : Int32))]) (rest := []) (lenOf pd_4 rfl) rfl (by show 2 * 0 + _ ≤ _; exact Nat.le_of_eq rfl) (hb hby d_prog_131_method_2_46) (fun _ _ => ⟨rfl, e30, (by decide : 1 + 0 ≤ _), (by decide : 8 + 0 ≤ _)⟩)
      dsimp only [Pt.U, Pt.locs, Pt.cells, Pt.slots] at X32 l32 y32 z32 st32 hQ32
      subst l32 y32 z32
      obtain ⟨rfl, N32q, K32, Ag32⟩ := hQ32
      have N32 := Fr.app N28 N32q
      have Af32 : IA Z T32.heap b27 (growF ic xl) := Ag32
      have F32_innermostCount := F28_innermostCount.keep K32 (ninS (A28_b27.neE Ex28_xa (hw _ (List.mem_of_getElem? (i := 1) rfl))) nin0)
      have F32_countLabel := F28_countLabel.keep K32 (ninS (A28_b27.neE Ex28_xa (hw _ (List.mem_of_getElem? (i := 1) rfl))) nin0)
      have F32_countValue := F28_countValue.keep K32 (ninS (A28_b27.neE Ex28_xa (hw _ (List.mem_of_getElem? (i := 1) rfl))) nin0)
      have F32_hiddenCount := F28_hiddenCount.keep K32 (ninS (A28_b27.neE Ex28_xa (hw _ (List.mem_of_getElem? (i := 1) rfl))) nin0)
      have F32_firstCount := F28_firstCount.keep K32 (ninS (A28_b27.neE Ex28_xa (hw _ (List.mem_of_getElem? (i := 1) rfl))) nin0)
      have F32_counts := F28_counts.keep K32 (ninS (A28_b27.neE Ex28_xa (hw _ (List.mem_of_getElem? (i := 1) rfl))) nin0)
      have F32_depth := F28_depth.keep K32 (ninS (A28_b27.neE Ex28_xa (hw _ (List.mem_of_getElem? (i := 1) rfl))) nin0)
      have Ex32_xa := Ex28_xa.keep K32
      have A32_bi := A28_bi.keep K32 (ninS ne_bi_b27 nin0)
      have A32_bl := A28_bl.keep K32 (ninS ne_bl_b27 nin0)
      have A32_bv := A28_bv.keep K32 (ninS ne_bv_b27 nin0)
      have A32_bh := A28_bh.keep K32 (ninS ne_bh_b27 nin0)
      have A32_bf := A28_bf.keep K32 (ninS ne_bf_b27 nin0)
      obtain ⟨T33, X33, e33, st33⟩ := getF X32 hx hZ hown (host := "") (Or.inl (hw _ (List.mem_of_getElem? (i := 10) rfl))) Via.refl rfl F32_innermostCount (g := (mkF m 50 #[.val (.ref xa), .val (.int xl), .val (.int (Int32.ofNat ic.length)), .unset] [(.ref xa)])) rfl rfl (hb hby d_prog_131_method_2_50)
      obtain ⟨cl34, Ar34, hin34, hat34, -⟩ := Af32.rd (j := xl) o2
      obtain ⟨T35, X35, e35, st35⟩ := getF X33 hx hZ hown (host := "") (Or.inl (hw _ (List.mem_of_getElem? (i := 18) rfl))) Via.refl e33 F32_firstCount (g := (mkF m 58 #[.val (.ref xa), .val (.int xl), .val (.int (gI (growF ic xl) xl)), .unset] [(.ref xa), (.int (gI (growF ic xl) xl))])) rfl rfl (hb hby d_prog_131_method_2_58)
      obtain ⟨T36, X36, e36, st36⟩ := getF X35 hx hZ hown (host := "") (Or.inl (hw _ (List.mem_of_getElem? (i := 46) rfl))) Via.refl e35 F32_depth (g := (mkF m 62 #[.val (.ref xa), .val (.int xl), .val (.int (gI (growF ic xl) xl)), .unset] [(.ref xa), (.ref bf), (.int (gI (growF ic xl) xl))])) rfl rfl (hb hby d_prog_131_method_2_62)
      obtain ⟨cl37, Ar37, hin37, hat37, -⟩ := A32_bf.rd (j := dep) o3
      have hSp : SP Z n0 T32.heap xa (growF ic xl) cl cv hc fc cnt dep := ⟨b27, bl, bv, bh, bf, Ex32_xa, F32_innermostCount, F32_countLabel, F32_countValue, F32_hiddenCount, F32_firstCount, F32_counts, F32_depth, Af32, A32_bl, A32_bv, A32_bh, A32_bf, ⟨(Ne.symm ne_bl_b27), (Ne.symm ne_bv_b27), (Ne.symm ne_bh_b27), (Ne.symm ne_bf_b27), ne12, ne13, ne14, ne23, ne24, ne34⟩, ⟨ga, g_b27, g1, g2, g3, g4⟩⟩
      obtain ⟨cq38, q38, q38'⟩ := (Ex32_xa).cell
      obtain ⟨ci38, ki38, i138, i238, -, i438, -⟩ := Cond.instantiable_spec (mvT (args := #[]) hZ (hw _ (List.mem_of_getElem? (i := 1) rfl)))
      have pv38 := Cond.privateMethod_at (mvP hZ (hw _ (List.mem_of_getElem? (i := 50) rfl)) (args := #[]))
      obtain ⟨_, _, ⟨T38, L38, k38, n38⟩, -, X38, ⟨Lc38, hQ38, l38, y38, z38⟩, st38⟩ := X36.privateBack hx (y := (⟨"com/example/orsay/orsay/SiblingPositions", "push", "(I)V"⟩ : MethodName)) hown (mvT hZ (hw _ (List.mem_of_getElem? (i := 48) rfl))) (mvT hZ (hw _ (List.mem_of_getElem? (i := 49) rfl))) (Jvm.Stand.selects_self_of_private (y := (⟨"com/example/orsay/orsay/SiblingPositions", "push", "(I)V"⟩ : MethodName)) i138 i238 (Bool.or_eq_false_iff.mp i438).1 pv38 (mvT hZ (hw _ (List.mem_of_getElem? (i := 49) rfl))) (by decide)) pv38 (mvT hZ (hw _ (List.mem_of_getElem? (i := 51) rfl))) (by decide) (backOf (W := 0) (rm_push l Z a0 hw [] xa xl (growF ic xl) cl cv hc fc cnt dep T32.heap n0 (Nat.le_trans (Nat.le_trans (Nat.le_trans Z0 K27.1) (Keep.of_wr W28).1) K32.1) hSp o4) hZ (hw _ (List.mem_of_getElem? (i := 51) rfl)) (hw _ (List.mem_of_getElem? (i := 2) rfl)) (by decide) (by decide)) (g := (mkF m 91 #[.val (.ref xa), .val (.int xl), .val (.int (gI (growF ic xl) xl)), .unset] [(.int xl), (.ref xa)])) rfl (by rw [hml]; rfl) (Steps.refl _) (a := xa) (by rw [e36]; exact q38) q38' (argsL := [(.int xl)]) (rest := []) (lenOf pd_2 rfl) rfl (by show 2 * 0 + _ ≤ _; exact Nat.le_of_eq rfl) (hb hby d_prog_131_method_2_91) (fun _ _ => ⟨rfl, e36, (by decide : 1 + 0 ≤ _), (by decide : 8 + 0 ≤ _)⟩)
      dsimp only [Pt.U, Pt.locs, Pt.cells, Pt.slots] at X38 l38 y38 z38 st38 hQ38
      subst l38 y38 z38
      obtain ⟨rfl, N38q, hS38⟩ := hQ38
      have N38 := Fr.app N32 N38q
      obtain ⟨fs, hr, hrun, hended, hW, hsame⟩ := X38.leave (v := some (.int (nextR (ic, cl, cv, hc, fc, cnt, dep) xl))) (fun h => by rw [Bd.returns] at h; cases h)
      refine ⟨_, _, pre0 _ ?_, hrun, hended, _, _, rfl, ?_, ⟨_, rfl⟩, hW, hsame.mono (by decide) (by decide)⟩
      · show Steps p.tables e below (s₁.setTop (mkF m 0 #[.val (.ref xa), .val (.int xl), .unset, .unset] [])) _
        refine XS.iloadN X0.here hx rfl (hb hby d_prog_131_method_2_0) rfl ?_
        show Steps p.tables e below (s₁.setTop (mkF m 1 #[.val (.ref xa), .val (.int xl), .unset, .unset] [(.int xl)])) _
        refine XS.aloadN X0.here hx rfl (hb hby d_prog_131_method_2_1) rfl rfl ?_
        show Steps p.tables e below (s₁.setTop (mkF m 2 #[.val (.ref xa), .val (.int xl), .unset, .unset] [(.ref xa), (.int xl)])) _
        refine st21 _ ?_
        show Steps p.tables e below (T21.setTop (mkF m 5 #[.val (.ref xa), .val (.int xl), .unset, .unset] [(.ref bi), (.int xl)])) _
        refine X21.arraylength hx (by rw [e21]; exact Ar22.1) (State.isArrayOf_alike hZ.alike Ar22.2.1) (g := (mkF m 5 #[.val (.ref xa), .val (.int xl), .unset, .unset] [(.ref bi), (.int xl)])) rfl rfl (hb hby d_prog_131_method_2_5) _ ?_
        rw [ln22]
        show Steps p.tables e below (T21.setTop (mkF m 6 #[.val (.ref xa), .val (.int xl), .unset, .unset] [(.int (Int32.ofNat ic.length)), (.int xl)])) _
        refine XS.icmpNo X21.here hx rfl (hb hby d_prog_131_method_2_6) rfl (flt hc6).1 ?_
        show Steps p.tables e below (T21.setTop (mkF m 9 #[.val (.ref xa), .val (.int xl), .unset, .unset] [])) _
        refine XS.aloadN X21.here hx rfl (hb hby d_prog_131_method_2_9) rfl rfl ?_
        show Steps p.tables e below (T21.setTop (mkF m 10 #[.val (.ref xa), .val (.int xl), .unset, .unset] [(.ref xa)])) _
        refine st23 _ ?_
        show Steps p.tables e below (T23.setTop (mkF m 13 #[.val (.ref xa), .val (.int xl), .unset, .unset] [(.ref bi)])) _
        refine X23.arraylength hx (by rw [e23]; exact Ar24.1) (State.isArrayOf_alike hZ.alike Ar24.2.1) (g := (mkF m 13 #[.val (.ref xa), .val (.int xl), .unset, .unset] [(.ref bi)])) rfl rfl (hb hby d_prog_131_method_2_13) _ ?_
        rw [ln24]
        show Steps p.tables e below (T23.setTop (mkF m 14 #[.val (.ref xa), .val (.int xl), .unset, .unset] [(.int (Int32.ofNat ic.length))])) _
        refine XS.istoreN X23.here hx rfl (hb hby d_prog_131_method_2_14) rfl (l' := #[.val (.ref xa), .val (.int xl), .val (.int (Int32.ofNat ic.length)), .unset]) rfl ?_
        show Steps p.tables e below (T23.setTop (mkF m 15 #[.val (.ref xa), .val (.int xl), .val (.int (Int32.ofNat ic.length)), .unset] [])) _
        refine XS.aloadN X23.here hx rfl (hb hby d_prog_131_method_2_15) rfl rfl ?_
        show Steps p.tables e below (T23.setTop (mkF m 16 #[.val (.ref xa), .val (.int xl), .val (.int (Int32.ofNat ic.length)), .unset] [(.ref xa)])) _
        refine XS.aloadN X23.here hx rfl (hb hby d_prog_131_method_2_16) rfl rfl ?_
        show Steps p.tables e below (T23.setTop (mkF m 17 #[.val (.ref xa), .val (.int xl), .val (.int (Int32.ofNat ic.length)), .unset] [(.ref xa), (.ref xa)])) _
        refine st25 _ ?_
        show Steps p.tables e below (T25.setTop (mkF m 20 #[.val (.ref xa), .val (.int xl), .val (.int (Int32.ofNat ic.length)), .unset] [(.ref bi), (.ref xa)])) _
        refine XS.iconst X25.here hx rfl (hb hby d_prog_131_method_2_20) ?_
        show Steps p.tables e below (T25.setTop (mkF m 21 #[.val (.ref xa), .val (.int xl), .val (.int (Int32.ofNat ic.length)), .unset] [(.int (2 : Int32)), (.ref bi), (.ref xa)])) _
        refine XS.iloadN X25.here hx rfl (hb hby d_prog_131_method_2_21) rfl ?_
        show Steps p.tables e below (T25.setTop (mkF m 22 #[.val (.ref xa), .val (.int xl), .val (.int (Int32.ofNat ic.length)), .unset] [(.int (Int32.ofNat ic.length)), (.int (2 : Int32)), (.ref bi), (.ref xa)])) _
        refine XS.imul X25.here hx rfl (hb hby d_prog_131_method_2_22) rfl ?_
        show Steps p.tables e below (T25.setTop (mkF m 23 #[.val (.ref xa), .val (.int xl), .val (.int (Int32.ofNat ic.length)), .unset] [(.int ((2 : Int32) * (Int32.ofNat ic.length))), (.ref bi), (.ref xa)])) _
        refine XS.iloadN X25.here hx rfl (hb hby d_prog_131_method_2_23) rfl ?_
        show Steps p.tables e below (T25.setTop (mkF m 24 #[.val (.ref xa), .val (.int xl), .val (.int (Int32.ofNat ic.length)), .unset] [(.int xl), (.int ((2 : Int32) * (Int32.ofNat ic.length))), (.ref bi), (.ref xa)])) _
        refine XS.iconst X25.here hx rfl (hb hby d_prog_131_method_2_24) ?_
        show Steps p.tables e below (T25.setTop (mkF m 25 #[.val (.ref xa), .val (.int xl), .val (.int (Int32.ofNat ic.length)), .unset] [(.int (1 : Int32)), (.int xl), (.int ((2 : Int32) * (Int32.ofNat ic.length))), (.ref bi), (.ref xa)])) _
        refine XS.iadd X25.here hx rfl (hb hby d_prog_131_method_2_25) rfl ?_
        show Steps p.tables e below (T25.setTop (mkF m 26 #[.val (.ref xa), .val (.int xl), .val (.int (Int32.ofNat ic.length)), .unset] [(.int (xl + (1 : Int32))), (.int ((2 : Int32) * (Int32.ofNat ic.length))), (.ref bi), (.ref xa)])) _
        refine st26 _ ?_
        show Steps p.tables e below (T26.setTop (mkF m 29 #[.val (.ref xa), .val (.int xl), .val (.int (Int32.ofNat ic.length)), .unset] [(.int (capF ic xl)), (.ref bi), (.ref xa)])) _
        refine st27 _ ?_
        show Steps p.tables e below (T27.setTop (mkF m 32 #[.val (.ref xa), .val (.int xl), .val (.int (Int32.ofNat ic.length)), .unset] [(.ref b27), (.ref xa)])) _
        refine st28 _ ?_
        show Steps p.tables e below (T28.setTop (mkF m 35 #[.val (.ref xa), .val (.int xl), .val (.int (Int32.ofNat ic.length)), .unset] [])) _
        refine XS.aloadN X28.here hx rfl (hb hby d_prog_131_method_2_35) rfl rfl ?_
        show Steps p.tables e below (T28.setTop (mkF m 36 #[.val (.ref xa), .val (.int xl), .val (.int (Int32.ofNat ic.length)), .unset] [(.ref xa)])) _
        refine st29 _ ?_
        show Steps p.tables e below (T29.setTop (mkF m 39 #[.val (.ref xa), .val (.int xl), .val (.int (Int32.ofNat ic.length)), .unset] [(.ref b27)])) _
        refine XS.iloadN X29.here hx rfl (hb hby d_prog_131_method_2_39) rfl ?_
        show Steps p.tables e below (T29.setTop (mkF m 40 #[.val (.ref xa), .val (.int xl), .val (.int (Int32.ofNat ic.length)), .unset] [(.int (Int32.ofNat ic.length)), (.ref b27)])) _
        refine XS.aloadN X29.here hx rfl (hb hby d_prog_131_method_2_40) rfl rfl ?_
        show Steps p.tables e below (T29.setTop (mkF m 41 #[.val (.ref xa), .val (.int xl), .val (.int (Int32.ofNat ic.length)), .unset] [(.ref xa), (.int (Int32.ofNat ic.length)), (.ref b27)])) _
        refine st30 _ ?_
        show Steps p.tables e below (T30.setTop (mkF m 44 #[.val (.ref xa), .val (.int xl), .val (.int (Int32.ofNat ic.length)), .unset] [(.ref b27), (.int (Int32.ofNat ic.length)), (.ref b27)])) _
        refine X30.arraylength hx (by rw [e30]; exact Ar31.1) (State.isArrayOf_alike hZ.alike Ar31.2.1) (g := (mkF m 44 #[.val (.ref xa), .val (.int xl), .val (.int (Int32.ofNat ic.length)), .unset] [(.ref b27), (.int (Int32.ofNat ic.length)), (.ref b27)])) rfl rfl (hb hby d_prog_131_method_2_44) _ ?_
        rw [ln31]
        show Steps p.tables e below (T30.setTop (mkF m 45 #[.val (.ref xa), .val (.int xl), .val (.int (Int32.ofNat ic.length)), .unset] [(.int (Int32.ofNat (cpyF ic (capF ic xl)).length)), (.int (Int32.ofNat ic.length)), (.ref b27)])) _
        refine XS.iconst X30.here hx rfl (hb hby d_prog_131_method_2_45) ?_
        show Steps p.tables e below (T30.setTop (mkF m 46 #[.val (.ref xa), .val (.int xl), .val (.int (Int32.ofNat ic.length)), .unset] [(.int (-1 : Int32)), (.int (Int32.ofNat (cpyF ic (capF ic xl)).length)), (.int (Int32.ofNat ic.length)), (.ref b27)])) _
        refine st32 _ ?_
        show Steps p.tables e below (T32.setTop (mkF m 49 #[.val (.ref xa), .val (.int xl), .val (.int (Int32.ofNat ic.length)), .unset] [])) _
        refine XS.aloadN X32.here hx rfl (hb hby d_prog_131_method_2_49) rfl rfl ?_
        show Steps p.tables e below (T32.setTop (mkF m 50 #[.val (.ref xa), .val (.int xl), .val (.int (Int32.ofNat ic.length)), .unset] [(.ref xa)])) _
        refine st33 _ ?_
        show Steps p.tables e below (T33.setTop (mkF m 53 #[.val (.ref xa), .val (.int xl), .val (.int (Int32.ofNat ic.length)), .unset] [(.ref b27)])) _
        refine XS.iloadN X33.here hx rfl (hb hby d_prog_131_method_2_53) rfl ?_
        show Steps p.tables e below (T33.setTop (mkF m 54 #[.val (.ref xa), .val (.int xl), .val (.int (Int32.ofNat ic.length)), .unset] [(.int xl), (.ref b27)])) _
        refine X33.iaload hx (j := xl) (v := (.int (gI (growF ic xl) xl))) (by rw [e33]; exact Ar34.1) (State.isArrayOf_alike hZ.alike Ar34.2.1) Ar34.2.2 hin34 hat34 (g := (mkF m 54 #[.val (.ref xa), .val (.int xl), .val (.int (Int32.ofNat ic.length)), .unset] [(.int xl), (.ref b27)])) rfl rfl (hb hby d_prog_131_method_2_54) _ ?_
        show Steps p.tables e below (T33.setTop (mkF m 55 #[.val (.ref xa), .val (.int xl), .val (.int (Int32.ofNat ic.length)), .unset] [(.int (gI (growF ic xl) xl))])) _
        refine XS.istoreN X33.here hx rfl (hb hby d_prog_131_method_2_55) rfl (l' := #[.val (.ref xa), .val (.int xl), .val (.int (gI (growF ic xl) xl)), .unset]) rfl ?_
        show Steps p.tables e below (T33.setTop (mkF m 56 #[.val (.ref xa), .val (.int xl), .val (.int (gI (growF ic xl) xl)), .unset] [])) _
        refine XS.iloadN X33.here hx rfl (hb hby d_prog_131_method_2_56) rfl ?_
        show Steps p.tables e below (T33.setTop (mkF m 57 #[.val (.ref xa), .val (.int xl), .val (.int (gI (growF ic xl) xl)), .unset] [(.int (gI (growF ic xl) xl))])) _
        refine XS.aloadN X33.here hx rfl (hb hby d_prog_131_method_2_57) rfl rfl ?_
        show Steps p.tables e below (T33.setTop (mkF m 58 #[.val (.ref xa), .val (.int xl), .val (.int (gI (growF ic xl) xl)), .unset] [(.ref xa), (.int (gI (growF ic xl) xl))])) _
        refine st35 _ ?_
        show Steps p.tables e below (T35.setTop (mkF m 61 #[.val (.ref xa), .val (.int xl), .val (.int (gI (growF ic xl) xl)), .unset] [(.ref bf), (.int (gI (growF ic xl) xl))])) _
        refine XS.aloadN X35.here hx rfl (hb hby d_prog_131_method_2_61) rfl rfl ?_
        show Steps p.tables e below (T35.setTop (mkF m 62 #[.val (.ref xa), .val (.int xl), .val (.int (gI (growF ic xl) xl)), .unset] [(.ref xa), (.ref bf), (.int (gI (growF ic xl) xl))])) _
        refine st36 _ ?_
        show Steps p.tables e below (T36.setTop (mkF m 65 #[.val (.ref xa), .val (.int xl), .val (.int (gI (growF ic xl) xl)), .unset] [(.int dep), (.ref bf), (.int (gI (growF ic xl) xl))])) _
        refine X36.iaload hx (j := dep) (v := (.int (gI fc dep))) (by rw [e36]; exact Ar37.1) (State.isArrayOf_alike hZ.alike Ar37.2.1) Ar37.2.2 hin37 hat37 (g := (mkF m 65 #[.val (.ref xa), .val (.int xl), .val (.int (gI (growF ic xl) xl)), .unset] [(.int dep), (.ref bf), (.int (gI (growF ic xl) xl))])) rfl rfl (hb hby d_prog_131_method_2_65) _ ?_
        show Steps p.tables e below (T36.setTop (mkF m 66 #[.val (.ref xa), .val (.int xl), .val (.int (gI (growF ic xl) xl)), .unset] [(.int (gI fc dep)), (.int (gI (growF ic xl) xl))])) _
        refine XS.icmpYes X36.here hx rfl (pc0 := 66) (pc' := 89) rfl (hb hby d_prog_131_method_2_66) rfl (tlt hc66).1 (by decide) (by decide) ?_
        show Steps p.tables e below (T36.setTop (mkF m 89 #[.val (.ref xa), .val (.int xl), .val (.int (gI (growF ic xl) xl)), .unset] [])) _
        refine XS.aloadN X36.here hx rfl (hb hby d_prog_131_method_2_89) rfl rfl ?_
        show Steps p.tables e below (T36.setTop (mkF m 90 #[.val (.ref xa), .val (.int xl), .val (.int (gI (growF ic xl) xl)), .unset] [(.ref xa)])) _
        refine XS.iloadN X36.here hx rfl (hb hby d_prog_131_method_2_90) rfl ?_
        show Steps p.tables e below (T36.setTop (mkF m 91 #[.val (.ref xa), .val (.int xl), .val (.int (gI (growF ic xl) xl)), .unset] [(.int xl), (.ref xa)])) _
        refine st38.trans ?_
        show Steps p.tables e below (T38.setTop (mkF m 94 #[.val (.ref xa), .val (.int xl), .val (.int (gI (growF ic xl) xl)), .unset] [])) _
        refine XS.iconst X38.here hx rfl (hb hby d_prog_131_method_2_94) ?_
        show Steps p.tables e below (T38.setTop (mkF m 95 #[.val (.ref xa), .val (.int xl), .val (.int (gI (growF ic xl) xl)), .unset] [(.int (1 : Int32))])) _
        refine XS.istoreN X38.here hx rfl (hb hby d_prog_131_method_2_95) rfl (l' := #[.val (.ref xa), .val (.int xl), .val (.int (gI (growF ic xl) xl)), .val (.int (1 : Int32))]) rfl ?_
        show Steps p.tables e below (T38.setTop (mkF m 96 #[.val (.ref xa), .val (.int xl), .val (.int (gI (growF ic xl) xl)), .val (.int (1 : Int32))] [])) _
        refine XS.iloadN X38.here hx rfl (hb hby d_prog_131_method_2_96) rfl ?_
        show Steps p.tables e below (T38.setTop (mkF m 97 #[.val (.ref xa), .val (.int xl), .val (.int (gI (growF ic xl) xl)), .val (.int (1 : Int32))] [(.int (1 : Int32))])) _
        exact retI X38 hx Bd.returns (hb hby d_prog_131_method_2_97) (by rw [show (1 : Int32) = (nextR (ic, cl, cv, hc, fc, cnt, dep) xl) from eR.symm]; exact hr)
      · show Q_next Z xa xl ic cl cv hc fc cnt dep h0 n0 _ T38.heap _
        exact ⟨rfl, N38, (by rw [eS]; exact hS38)⟩
    · rw [show grI ic xl = growF ic xl from if_neg hc6] at o2 o4 eR eS
      have hicl := Ai.1
      obtain ⟨hg1, hg2⟩ := grow_facts hicl o1 hc6
      rw [if_neg hc66] at o4 eR eS
      obtain ⟨T39, X39, e39, st39⟩ := getF X0 hx hZ hown (host := "") (Or.inl (hw _ (List.mem_of_getElem? (i := 10) rfl))) Via.refl e0 Fi (g := (mkF m 2 #[.val (.ref xa), .val (.int xl), .unset, .unset] [(.ref xa), (.int xl)])) rfl rfl (hb hby d_prog_131_method_2_2)
      obtain ⟨cl40, Ar40, ln40⟩ := Ai.ln
      obtain ⟨T41, X41, e41, st41⟩ := getF X39 hx hZ hown (host := "") (Or.inl (hw _ (List.mem_of_getElem? (i := 10) rfl))) Via.refl e39 Fi (g := (mkF m 10 #[.val (.ref xa), .val (.int xl), .unset, .unset] [(.ref xa)])) rfl rfl (hb hby d_prog_131_method_2_10)
      obtain ⟨cl42, Ar42, ln42⟩ := Ai.ln
      obtain ⟨T43, X43, e43, st43⟩ := getF X41 hx hZ hown (host := "") (Or.inl (hw _ (List.mem_of_getElem? (i := 10) rfl))) Via.refl e41 Fi (g := (mkF m 17 #[.val (.ref xa), .val (.int xl), .val (.int (Int32.ofNat ic.length)), .unset] [(.ref xa), (.ref xa)])) rfl rfl (hb hby d_prog_131_method_2_17)
      obtain ⟨_, _, ⟨T44, L44, k44, n44⟩, -, X44, ⟨Lc44, hQ44, l44, y44, z44⟩, st44⟩ := Jvm.LawKit.callS X43 hx (y := (⟨"java/lang/Math", "max", "(II)I"⟩ : MethodName)) hown (mvT hZ (hw _ (List.mem_of_getElem? (i := 25) rfl))) (mvT hZ (hw _ (List.mem_of_getElem? (i := 26) rfl))) (mvT hZ (hw _ (List.mem_of_getElem? (i := 27) rfl))) (mvT hZ (hw _ (List.mem_of_getElem? (i := 28) rfl))) (by decide) (backOf (W := 2) (rm_max l Z a0 hw [] ((2 : Int32) * (Int32.ofNat ic.length)) (xl + (1 : Int32)) h0 n0 Z0 ) hZ (hw _ (List.mem_of_getElem? (i := 28) rfl)) (hw _ (List.mem_of_getElem? (i := 27) rfl)) (by decide) (by decide)) (g := (mkF m 26 #[.val (.ref xa), .val (.int xl), .val (.int (Int32.ofNat ic.length)), .unset] [(.int (xl + (1 : Int32))), (.int ((2 : Int32) * (Int32.ofNat ic.length))), (.ref bi), (.ref xa)])) rfl (by rw [hml]; rfl) (argsL := [(.int ((2 : Int32) * (Int32.ofNat ic.length))), (.int (xl + (1 : Int32)))]) (rest := [(.ref bi), (.ref xa)]) (lenOf pd_0 rfl) rfl (by show 2 * 0 + _ ≤ _; exact Nat.le_of_eq rfl) (hb hby d_prog_131_method_2_26) (fun _ _ => ⟨rfl, e43, (by decide : 0 + 0 ≤ _), (by decide : 0 + 0 ≤ _)⟩)
      dsimp only [Pt.U, Pt.locs, Pt.cells, Pt.slots] at X44 l44 y44 z44 st44 hQ44
      subst l44 y44 z44
      obtain ⟨rfl, N44q, e44⟩ := hQ44
      have N44 := Fr.app N0 N44q
      obtain ⟨_, _, ⟨T45, L45, k45, n45⟩, -, X45, ⟨Lc45, hQ45, l45, y45, z45⟩, st45⟩ := Jvm.LawKit.callS X44 hx (y := (⟨"java/util/Arrays", "copyOf", "([II)[I"⟩ : MethodName)) hown (mvT hZ (hw _ (List.mem_of_getElem? (i := 29) rfl))) (mvT hZ (hw _ (List.mem_of_getElem? (i := 30) rfl))) (mvT hZ (hw _ (List.mem_of_getElem? (i := 31) rfl))) (mvT hZ (hw _ (List.mem_of_getElem? (i := 32) rfl))) (by decide) (backOf (W := 1) (rm_cpy l Z a0 hw [] bi (capF ic xl) ic h0 n0 Z0 Ai hg1 hg2) hZ (hw _ (List.mem_of_getElem? (i := 32) rfl)) (hw _ (List.mem_of_getElem? (i := 31) rfl)) (by decide) (by decide)) (g := (mkF m 29 #[.val (.ref xa), .val (.int xl), .val (.int (Int32.ofNat ic.length)), .unset] [(.int (capF ic xl)), (.ref bi), (.ref xa)])) rfl (by rw [hml]; rfl) (argsL := [(.ref bi), (.int (capF ic xl))]) (rest := [(.ref xa)]) (lenOf pd_3 rfl) rfl (by show 2 * 0 + _ ≤ _; exact Nat.le_of_eq rfl) (hb hby d_prog_131_method_2_29) (fun _ _ => ⟨rfl, e44, (by decide : 0 + 1 ≤ _), (by decide : 0 + 8 ≤ _)⟩)
      dsimp only [Pt.U, Pt.locs, Pt.cells, Pt.slots] at X45 l45 y45 z45 st45 hQ45
      subst l45 y45 z45
      obtain ⟨rfl, N45q, K45, Ac45⟩ := hQ45
      have N45 := Fr.app N44 N45q
      obtain ⟨b45, g45⟩ : ∃ z, z = h0.size := ⟨_, rfl⟩
      rw [← g45] at Ac45 st45
      have g_b45 : n0 ≤ b45 := Nat.le_trans Z0 (Nat.le_of_eq g45.symm)
      have ne_bi_b45 : bi ≠ b45 := Nat.ne_of_lt (Nat.lt_of_lt_of_le Ai.lt (Nat.le_of_eq g45.symm))
      have ne_bl_b45 : bl ≠ b45 := Nat.ne_of_lt (Nat.lt_of_lt_of_le Al.lt (Nat.le_of_eq g45.symm))
      have ne_bv_b45 : bv ≠ b45 := Nat.ne_of_lt (Nat.lt_of_lt_of_le Av.lt (Nat.le_of_eq g45.symm))
      have ne_bh_b45 : bh ≠ b45 := Nat.ne_of_lt (Nat.lt_of_lt_of_le Ah.lt (Nat.le_of_eq g45.symm))
      have ne_bf_b45 : bf ≠ b45 := Nat.ne_of_lt (Nat.lt_of_lt_of_le Af.lt (Nat.le_of_eq g45.symm))
      have F45_innermostCount := Fi.keep K45 nin0
      have F45_countLabel := Fl.keep K45 nin0
      have F45_countValue := Fv.keep K45 nin0
      have F45_hiddenCount := Fh.keep K45 nin0
      have F45_firstCount := Ff.keep K45 nin0
      have F45_counts := Fc.keep K45 nin0
      have F45_depth := Fd.keep K45 nin0
      have Ex45_xa := Ex.keep K45
      have A45_bi := Ai.keep K45 nin0
      have A45_bl := Al.keep K45 nin0
      have A45_bv := Av.keep K45 nin0
      have A45_bh := Ah.keep K45 nin0
      have A45_bf := Af.keep K45 nin0
      obtain ⟨T46, h46, X46, e46, W46, st46⟩ := putF X45 hx hZ hown (host := "") (Or.inl (hw _ (List.mem_of_getElem? (i := 10) rfl))) Via.refl rfl F45_innermostCount Ex45_xa (Or.inl (hw _ (List.mem_of_getElem? (i := 11) rfl))) (hw _ (List.mem_of_getElem? (i := 1) rfl)) (ty := (.array .int)) (by decide) rfl rfl (g := (mkF m 32 #[.val (.ref xa), .val (.int xl), .val (.int (Int32.ofNat ic.length)), .unset] [(.ref b45), (.ref xa)])) rfl rfl (hb hby d_prog_131_method_2_32)
      have F46_innermostCount := F45_innermostCount.same W46
      have F46_countLabel := F45_countLabel.other W46 (Or.inr (slot_ne (Or.inl (hw _ (List.mem_of_getElem? (i := 13) rfl))) (Or.inl (hw _ (List.mem_of_getElem? (i := 11) rfl))) (by decide) (t := (.array .int)) (t' := (.array .int)) (by decide) (by decide)))
      have F46_countValue := F45_countValue.other W46 (Or.inr (slot_ne (Or.inl (hw _ (List.mem_of_getElem? (i := 15) rfl))) (Or.inl (hw _ (List.mem_of_getElem? (i := 11) rfl))) (by decide) (t := (.array .int)) (t' := (.array .int)) (by decide) (by decide)))
      have F46_hiddenCount := F45_hiddenCount.other W46 (Or.inr (slot_ne (Or.inl (hw _ (List.mem_of_getElem? (i := 17) rfl))) (Or.inl (hw _ (List.mem_of_getElem? (i := 11) rfl))) (by decide) (t := (.array .int)) (t' := (.array .int)) (by decide) (by decide)))
      have F46_firstCount := F45_firstCount.other W46 (Or.inr (slot_ne (Or.inl (hw _ (List.mem_of_getElem? (i := 19) rfl))) (Or.inl (hw _ (List.mem_of_getElem? (i := 11) rfl))) (by decide) (t := (.array .int)) (t' := (.array .int)) (by decide) (by decide)))
      have F46_counts := F45_counts.other W46 (Or.inr (slot_ne (Or.inl (hw _ (List.mem_of_getElem? (i := 53) rfl))) (Or.inl (hw _ (List.mem_of_getElem? (i := 11) rfl))) (by decide) (t := .int) (t' := (.array .int)) (by decide) (by decide)))
      have F46_depth := F45_depth.other W46 (Or.inr (slot_ne (Or.inl (hw _ (List.mem_of_getElem? (i := 47) rfl))) (Or.inl (hw _ (List.mem_of_getElem? (i := 11) rfl))) (by decide) (t := .int) (t' := (.array .int)) (by decide) (by decide)))
      have Ex46_xa := Ex45_xa.wr W46
      have A46_bi := A45_bi.other W46 (Ne.symm (A45_bi.neE Ex45_xa (hw _ (List.mem_of_getElem? (i := 1) rfl))))
      have A46_bl := A45_bl.other W46 (Ne.symm (A45_bl.neE Ex45_xa (hw _ (List.mem_of_getElem? (i := 1) rfl))))
      have A46_bv := A45_bv.other W46 (Ne.symm (A45_bv.neE Ex45_xa (hw _ (List.mem_of_getElem? (i := 1) rfl))))
      have A46_bh := A45_bh.other W46 (Ne.symm (A45_bh.neE Ex45_xa (hw _ (List.mem_of_getElem? (i := 1) rfl))))
      have A46_bf := A45_bf.other W46 (Ne.symm (A45_bf.neE Ex45_xa (hw _ (List.mem_of_getElem? (i := 1) rfl))))
      have A46_b45 := Ac45.other W46 (Ne.symm (Ac45.neE Ex45_xa (hw _ (List.mem_of_getElem? (i := 1) rfl))))
      have N46 := Fr.snoc X46 N45 ga
      obtain ⟨T47, X47, e47, st47⟩ := getF X46 hx hZ hown (host := "") (Or.inl (hw _ (List.mem_of_getElem? (i := 10) rfl))) Via.refl e46 F46_innermostCount (g := (mkF m 36 #[.val (.ref xa), .val (.int xl), .val (.int (Int32.ofNat ic.length)), .unset] [(.ref xa)])) rfl rfl (hb hby d_prog_131_method_2_36)
      obtain ⟨T48, X48, e48, st48⟩ := getF X47 hx hZ hown (host := "") (Or.inl (hw _ (List.mem_of_getElem? (i := 10) rfl))) Via.refl e47 F46_innermostCount (g := (mkF m 41 #[.val (.ref xa), .val (.int xl), .val (.int (Int32.ofNat ic.length)), .unset] [(.ref xa), (.int (Int32.ofNat ic.length)), (.ref b45)])) rfl rfl (hb hby d_prog_131_method_2_41)
      obtain ⟨cl49, Ar49, ln49⟩ := A46_b45.ln
      obtain ⟨_, _, ⟨T50, L50, k50, n50⟩, -, X50, ⟨Lc50, hQ50, l50, y50, z50⟩, st50⟩ := Jvm.LawKit.callS X48 hx (y := (⟨"java/util/Arrays", "fill", "([IIII)V"⟩ : MethodName)) hown (mvT hZ (hw _ (List.mem_of_getElem? (i := 40) rfl))) (mvT hZ (hw _ (List.mem_of_getElem? (i := 41) rfl))) (mvT hZ (hw _ (List.mem_of_getElem? (i := 31) rfl))) (mvT hZ (hw _ (List.mem_of_getElem? (i := 42) rfl))) (by decide) (backOf (W := 0) (rm_fill l Z a0 hw [] b45 (Int32.ofNat ic.length) (Int32.ofNat (cpyF ic (capF ic xl)).length) (-1 : Int32) (cpyF ic (capF ic xl)) ((capF ic xl).toNatClampNeg - ic.length) h46 n0 (Nat.le_trans (Nat.le_trans Z0 K45.1) (Keep.of_wr W46).1) A46_b45 g_b45 (own_nneg hicl) (fill_k hicl hg1 hg2) rfl) hZ (hw _ (List.mem_of_getElem? (i := 42) rfl)) (hw _ (List.mem_of_getElem? (i := 31) rfl)) (by decide) (by decide)) (g := (mkF m 46 #[.val (.ref xa), .val (.int xl), .val (.int (Int32.ofNat ic.length)), .unset] [(.int (-1 : Int32)), (.int (Int32.ofNat (cpyF ic (capF ic xl)).length)), (.int (Int32.ofNat ic.length)), (.ref b45)])) rfl (by rw [hml]; rfl) (argsL := [(.ref b45), (.int (Int32.ofNat ic.length)), (.int (Int32.ofNat (cpyF ic (capF ic xl)).length)), (.int (-1 : Int32))]) (rest := []) (lenOf pd_4 rfl) rfl (by show 2 * 0 + _ ≤ _; exact Nat.le_of_eq rfl) (hb hby d_prog_131_method_2_46) (fun _ _ => ⟨rfl, e48, (by decide : 1 + 0 ≤ _), (by decide : 8 + 0 ≤ _)⟩)
      dsimp only [Pt.U, Pt.locs, Pt.cells, Pt.slots] at X50 l50 y50 z50 st50 hQ50
      subst l50 y50 z50
      obtain ⟨rfl, N50q, K50, Ag50⟩ := hQ50
      have N50 := Fr.app N46 N50q
      have Af50 : IA Z T50.heap b45 (growF ic xl) := Ag50
      have F50_innermostCount := F46_innermostCount.keep K50 (ninS (A46_b45.neE Ex46_xa (hw _ (List.mem_of_getElem? (i := 1) rfl))) nin0)
      have F50_countLabel := F46_countLabel.keep K50 (ninS (A46_b45.neE Ex46_xa (hw _ (List.mem_of_getElem? (i := 1) rfl))) nin0)
      have F50_countValue := F46_countValue.keep K50 (ninS (A46_b45.neE Ex46_xa (hw _ (List.mem_of_getElem? (i := 1) rfl))) nin0)
      have F50_hiddenCount := F46_hiddenCount.keep K50 (ninS (A46_b45.neE Ex46_xa (hw _ (List.mem_of_getElem? (i := 1) rfl))) nin0)
      have F50_firstCount := F46_firstCount.keep K50 (ninS (A46_b45.neE Ex46_xa (hw _ (List.mem_of_getElem? (i := 1) rfl))) nin0)
      have F50_counts := F46_counts.keep K50 (ninS (A46_b45.neE Ex46_xa (hw _ (List.mem_of_getElem? (i := 1) rfl))) nin0)
      have F50_depth := F46_depth.keep K50 (ninS (A46_b45.neE Ex46_xa (hw _ (List.mem_of_getElem? (i := 1) rfl))) nin0)
      have Ex50_xa := Ex46_xa.keep K50
      have A50_bi := A46_bi.keep K50 (ninS ne_bi_b45 nin0)
      have A50_bl := A46_bl.keep K50 (ninS ne_bl_b45 nin0)
      have A50_bv := A46_bv.keep K50 (ninS ne_bv_b45 nin0)
      have A50_bh := A46_bh.keep K50 (ninS ne_bh_b45 nin0)
      have A50_bf := A46_bf.keep K50 (ninS ne_bf_b45 nin0)
      obtain ⟨T51, X51, e51, st51⟩ := getF X50 hx hZ hown (host := "") (Or.inl (hw _ (List.mem_of_getElem? (i := 10) rfl))) Via.refl rfl F50_innermostCount (g := (mkF m 50 #[.val (.ref xa), .val (.int xl), .val (.int (Int32.ofNat ic.length)), .unset] [(.ref xa)])) rfl rfl (hb hby d_prog_131_method_2_50)
      obtain ⟨cl52, Ar52, hin52, hat52, -⟩ := Af50.rd (j := xl) o2
      obtain ⟨T53, X53, e53, st53⟩ := getF X51 hx hZ hown (host := "") (Or.inl (hw _ (List.mem_of_getElem? (i := 18) rfl))) Via.refl e51 F50_firstCount (g := (mkF m 58 #[.val (.ref xa), .val (.int xl), .val (.int (gI (growF ic xl) xl)), .unset] [(.ref xa), (.int (gI (growF ic xl) xl))])) rfl rfl (hb hby d_prog_131_method_2_58)
      obtain ⟨T54, X54, e54, st54⟩ := getF X53 hx hZ hown (host := "") (Or.inl (hw _ (List.mem_of_getElem? (i := 46) rfl))) Via.refl e53 F50_depth (g := (mkF m 62 #[.val (.ref xa), .val (.int xl), .val (.int (gI (growF ic xl) xl)), .unset] [(.ref xa), (.ref bf), (.int (gI (growF ic xl) xl))])) rfl rfl (hb hby d_prog_131_method_2_62)
      obtain ⟨cl55, Ar55, hin55, hat55, -⟩ := A50_bf.rd (j := dep) o3
      obtain ⟨T56, X56, e56, st56⟩ := getF X54 hx hZ hown (host := "") (Or.inl (hw _ (List.mem_of_getElem? (i := 14) rfl))) Via.refl e54 F50_countValue (g := (mkF m 70 #[.val (.ref xa), .val (.int xl), .val (.int (gI (growF ic xl) xl)), .unset] [(.ref xa)])) rfl rfl (hb hby d_prog_131_method_2_70)
      obtain ⟨cl57, Ar57, hin57, hat57, -⟩ := A50_bv.rd (j := (gI (growF ic xl) xl)) o4
      obtain ⟨cl58, Ar58, hin58, -, u58⟩ := A50_bv.rd (j := (gI (growF ic xl) xl)) o4
      obtain ⟨T58, h58, X58, e58, W58, st58⟩ := stI X56 hx hZ e56 Ar58 (j := (gI (growF ic xl) xl)) hin58 (g := (mkF m 78 #[.val (.ref xa), .val (.int xl), .val (.int (gI (growF ic xl) xl)), .unset] [(.int ((gI cv (gI (growF ic xl) xl)) + (1 : Int32))), (.int (gI (growF ic xl) xl)), (.ref bv)])) rfl rfl (hb hby d_prog_131_method_2_78)
      have F58_innermostCount := F50_innermostCount.other W58 (Or.inl (A50_bv.neE Ex50_xa (hw _ (List.mem_of_getElem? (i := 1) rfl))))
      have F58_countLabel := F50_countLabel.other W58 (Or.inl (A50_bv.neE Ex50_xa (hw _ (List.mem_of_getElem? (i := 1) rfl))))
      have F58_countValue := F50_countValue.other W58 (Or.inl (A50_bv.neE Ex50_xa (hw _ (List.mem_of_getElem? (i := 1) rfl))))
      have F58_hiddenCount := F50_hiddenCount.other W58 (Or.inl (A50_bv.neE Ex50_xa (hw _ (List.mem_of_getElem? (i := 1) rfl))))
      have F58_firstCount := F50_firstCount.other W58 (Or.inl (A50_bv.neE Ex50_xa (hw _ (List.mem_of_getElem? (i := 1) rfl))))
      have F58_counts := F50_counts.other W58 (Or.inl (A50_bv.neE Ex50_xa (hw _ (List.mem_of_getElem? (i := 1) rfl))))
      have F58_depth := F50_depth.other W58 (Or.inl (A50_bv.neE Ex50_xa (hw _ (List.mem_of_getElem? (i := 1) rfl))))
      have Ex58_xa := Ex50_xa.wr W58
      have A58_bi := A50_bi.other W58 ne02
      have A58_bl := A50_bl.other W58 ne12
      have A58_bv := u58 _ _ W58
      have A58_bh := A50_bh.other W58 (Ne.symm ne23)
      have A58_bf := A50_bf.other W58 (Ne.symm ne24)
      have A58_b45 := Af50.other W58 (Ne.symm ne_bv_b45)
      have N58 := Fr.snoc X58 N50 g2
      obtain ⟨T59, X59, e59, st59⟩ := getF X58 hx hZ hown (host := "") (Or.inl (hw _ (List.mem_of_getElem? (i := 14) rfl))) Via.refl e58 F58_countValue (g := (mkF m 80 #[.val (.ref xa), .val (.int xl), .val (.int (gI (growF ic xl) xl)), .unset] [(.ref xa)])) rfl rfl (hb hby d_prog_131_method_2_80)
      obtain ⟨cl60, Ar60, hin60, hat60, -⟩ := A58_bv.rd (j := (gI (growF ic xl) xl)) (inR_sI o4)
      obtain ⟨fs, hr, hrun, hended, hW, hsame⟩ := X59.leave (v := some (.int (nextR (ic, cl, cv, hc, fc, cnt, dep) xl))) (fun h => by rw [Bd.returns] at h; cases h)
      refine ⟨_, _, pre0 _ ?_, hrun, hended, _, _, rfl, ?_, ⟨_, rfl⟩, hW, hsame.mono (by decide) (by decide)⟩
      · show Steps p.tables e below (s₁.setTop (mkF m 0 #[.val (.ref xa), .val (.int xl), .unset, .unset] [])) _
        refine XS.iloadN X0.here hx rfl (hb hby d_prog_131_method_2_0) rfl ?_
        show Steps p.tables e below (s₁.setTop (mkF m 1 #[.val (.ref xa), .val (.int xl), .unset, .unset] [(.int xl)])) _
        refine XS.aloadN X0.here hx rfl (hb hby d_prog_131_method_2_1) rfl rfl ?_
        show Steps p.tables e below (s₁.setTop (mkF m 2 #[.val (.ref xa), .val (.int xl), .unset, .unset] [(.ref xa), (.int xl)])) _
        refine st39 _ ?_
        show Steps p.tables e below (T39.setTop (mkF m 5 #[.val (.ref xa), .val (.int xl), .unset, .unset] [(.ref bi), (.int xl)])) _
        refine X39.arraylength hx (by rw [e39]; exact Ar40.1) (State.isArrayOf_alike hZ.alike Ar40.2.1) (g := (mkF m 5 #[.val (.ref xa), .val (.int xl), .unset, .unset] [(.ref bi), (.int xl)])) rfl rfl (hb hby d_prog_131_method_2_5) _ ?_
        rw [ln40]
        show Steps p.tables e below (T39.setTop (mkF m 6 #[.val (.ref xa), .val (.int xl), .unset, .unset] [(.int (Int32.ofNat ic.length)), (.int xl)])) _
        refine XS.icmpNo X39.here hx rfl (hb hby d_prog_131_method_2_6) rfl (flt hc6).1 ?_
        show Steps p.tables e below (T39.setTop (mkF m 9 #[.val (.ref xa), .val (.int xl), .unset, .unset] [])) _
        refine XS.aloadN X39.here hx rfl (hb hby d_prog_131_method_2_9) rfl rfl ?_
        show Steps p.tables e below (T39.setTop (mkF m 10 #[.val (.ref xa), .val (.int xl), .unset, .unset] [(.ref xa)])) _
        refine st41 _ ?_
        show Steps p.tables e below (T41.setTop (mkF m 13 #[.val (.ref xa), .val (.int xl), .unset, .unset] [(.ref bi)])) _
        refine X41.arraylength hx (by rw [e41]; exact Ar42.1) (State.isArrayOf_alike hZ.alike Ar42.2.1) (g := (mkF m 13 #[.val (.ref xa), .val (.int xl), .unset, .unset] [(.ref bi)])) rfl rfl (hb hby d_prog_131_method_2_13) _ ?_
        rw [ln42]
        show Steps p.tables e below (T41.setTop (mkF m 14 #[.val (.ref xa), .val (.int xl), .unset, .unset] [(.int (Int32.ofNat ic.length))])) _
        refine XS.istoreN X41.here hx rfl (hb hby d_prog_131_method_2_14) rfl (l' := #[.val (.ref xa), .val (.int xl), .val (.int (Int32.ofNat ic.length)), .unset]) rfl ?_
        show Steps p.tables e below (T41.setTop (mkF m 15 #[.val (.ref xa), .val (.int xl), .val (.int (Int32.ofNat ic.length)), .unset] [])) _
        refine XS.aloadN X41.here hx rfl (hb hby d_prog_131_method_2_15) rfl rfl ?_
        show Steps p.tables e below (T41.setTop (mkF m 16 #[.val (.ref xa), .val (.int xl), .val (.int (Int32.ofNat ic.length)), .unset] [(.ref xa)])) _
        refine XS.aloadN X41.here hx rfl (hb hby d_prog_131_method_2_16) rfl rfl ?_
        show Steps p.tables e below (T41.setTop (mkF m 17 #[.val (.ref xa), .val (.int xl), .val (.int (Int32.ofNat ic.length)), .unset] [(.ref xa), (.ref xa)])) _
        refine st43 _ ?_
        show Steps p.tables e below (T43.setTop (mkF m 20 #[.val (.ref xa), .val (.int xl), .val (.int (Int32.ofNat ic.length)), .unset] [(.ref bi), (.ref xa)])) _
        refine XS.iconst X43.here hx rfl (hb hby d_prog_131_method_2_20) ?_
        show Steps p.tables e below (T43.setTop (mkF m 21 #[.val (.ref xa), .val (.int xl), .val (.int (Int32.ofNat ic.length)), .unset] [(.int (2 : Int32)), (.ref bi), (.ref xa)])) _
        refine XS.iloadN X43.here hx rfl (hb hby d_prog_131_method_2_21) rfl ?_
        show Steps p.tables e below (T43.setTop (mkF m 22 #[.val (.ref xa), .val (.int xl), .val (.int (Int32.ofNat ic.length)), .unset] [(.int (Int32.ofNat ic.length)), (.int (2 : Int32)), (.ref bi), (.ref xa)])) _
        refine XS.imul X43.here hx rfl (hb hby d_prog_131_method_2_22) rfl ?_
        show Steps p.tables e below (T43.setTop (mkF m 23 #[.val (.ref xa), .val (.int xl), .val (.int (Int32.ofNat ic.length)), .unset] [(.int ((2 : Int32) * (Int32.ofNat ic.length))), (.ref bi), (.ref xa)])) _
        refine XS.iloadN X43.here hx rfl (hb hby d_prog_131_method_2_23) rfl ?_
        show Steps p.tables e below (T43.setTop (mkF m 24 #[.val (.ref xa), .val (.int xl), .val (.int (Int32.ofNat ic.length)), .unset] [(.int xl), (.int ((2 : Int32) * (Int32.ofNat ic.length))), (.ref bi), (.ref xa)])) _
        refine XS.iconst X43.here hx rfl (hb hby d_prog_131_method_2_24) ?_
        show Steps p.tables e below (T43.setTop (mkF m 25 #[.val (.ref xa), .val (.int xl), .val (.int (Int32.ofNat ic.length)), .unset] [(.int (1 : Int32)), (.int xl), (.int ((2 : Int32) * (Int32.ofNat ic.length))), (.ref bi), (.ref xa)])) _
        refine XS.iadd X43.here hx rfl (hb hby d_prog_131_method_2_25) rfl ?_
        show Steps p.tables e below (T43.setTop (mkF m 26 #[.val (.ref xa), .val (.int xl), .val (.int (Int32.ofNat ic.length)), .unset] [(.int (xl + (1 : Int32))), (.int ((2 : Int32) * (Int32.ofNat ic.length))), (.ref bi), (.ref xa)])) _
        refine st44 _ ?_
        show Steps p.tables e below (T44.setTop (mkF m 29 #[.val (.ref xa), .val (.int xl), .val (.int (Int32.ofNat ic.length)), .unset] [(.int (capF ic xl)), (.ref bi), (.ref xa)])) _
        refine st45 _ ?_
        show Steps p.tables e below (T45.setTop (mkF m 32 #[.val (.ref xa), .val (.int xl), .val (.int (Int32.ofNat ic.length)), .unset] [(.ref b45), (.ref xa)])) _
        refine st46 _ ?_
        show Steps p.tables e below (T46.setTop (mkF m 35 #[.val (.ref xa), .val (.int xl), .val (.int (Int32.ofNat ic.length)), .unset] [])) _
        refine XS.aloadN X46.here hx rfl (hb hby d_prog_131_method_2_35) rfl rfl ?_
        show Steps p.tables e below (T46.setTop (mkF m 36 #[.val (.ref xa), .val (.int xl), .val (.int (Int32.ofNat ic.length)), .unset] [(.ref xa)])) _
        refine st47 _ ?_
        show Steps p.tables e below (T47.setTop (mkF m 39 #[.val (.ref xa), .val (.int xl), .val (.int (Int32.ofNat ic.length)), .unset] [(.ref b45)])) _
        refine XS.iloadN X47.here hx rfl (hb hby d_prog_131_method_2_39) rfl ?_
        show Steps p.tables e below (T47.setTop (mkF m 40 #[.val (.ref xa), .val (.int xl), .val (.int (Int32.ofNat ic.length)), .unset] [(.int (Int32.ofNat ic.length)), (.ref b45)])) _
        refine XS.aloadN X47.here hx rfl (hb hby d_prog_131_method_2_40) rfl rfl ?_
        show Steps p.tables e below (T47.setTop (mkF m 41 #[.val (.ref xa), .val (.int xl), .val (.int (Int32.ofNat ic.length)), .unset] [(.ref xa), (.int (Int32.ofNat ic.length)), (.ref b45)])) _
        refine st48 _ ?_
        show Steps p.tables e below (T48.setTop (mkF m 44 #[.val (.ref xa), .val (.int xl), .val (.int (Int32.ofNat ic.length)), .unset] [(.ref b45), (.int (Int32.ofNat ic.length)), (.ref b45)])) _
        refine X48.arraylength hx (by rw [e48]; exact Ar49.1) (State.isArrayOf_alike hZ.alike Ar49.2.1) (g := (mkF m 44 #[.val (.ref xa), .val (.int xl), .val (.int (Int32.ofNat ic.length)), .unset] [(.ref b45), (.int (Int32.ofNat ic.length)), (.ref b45)])) rfl rfl (hb hby d_prog_131_method_2_44) _ ?_
        rw [ln49]
        show Steps p.tables e below (T48.setTop (mkF m 45 #[.val (.ref xa), .val (.int xl), .val (.int (Int32.ofNat ic.length)), .unset] [(.int (Int32.ofNat (cpyF ic (capF ic xl)).length)), (.int (Int32.ofNat ic.length)), (.ref b45)])) _
        refine XS.iconst X48.here hx rfl (hb hby d_prog_131_method_2_45) ?_
        show Steps p.tables e below (T48.setTop (mkF m 46 #[.val (.ref xa), .val (.int xl), .val (.int (Int32.ofNat ic.length)), .unset] [(.int (-1 : Int32)), (.int (Int32.ofNat (cpyF ic (capF ic xl)).length)), (.int (Int32.ofNat ic.length)), (.ref b45)])) _
        refine st50 _ ?_
        show Steps p.tables e below (T50.setTop (mkF m 49 #[.val (.ref xa), .val (.int xl), .val (.int (Int32.ofNat ic.length)), .unset] [])) _
        refine XS.aloadN X50.here hx rfl (hb hby d_prog_131_method_2_49) rfl rfl ?_
        show Steps p.tables e below (T50.setTop (mkF m 50 #[.val (.ref xa), .val (.int xl), .val (.int (Int32.ofNat ic.length)), .unset] [(.ref xa)])) _
        refine st51 _ ?_
        show Steps p.tables e below (T51.setTop (mkF m 53 #[.val (.ref xa), .val (.int xl), .val (.int (Int32.ofNat ic.length)), .unset] [(.ref b45)])) _
        refine XS.iloadN X51.here hx rfl (hb hby d_prog_131_method_2_53) rfl ?_
        show Steps p.tables e below (T51.setTop (mkF m 54 #[.val (.ref xa), .val (.int xl), .val (.int (Int32.ofNat ic.length)), .unset] [(.int xl), (.ref b45)])) _
        refine X51.iaload hx (j := xl) (v := (.int (gI (growF ic xl) xl))) (by rw [e51]; exact Ar52.1) (State.isArrayOf_alike hZ.alike Ar52.2.1) Ar52.2.2 hin52 hat52 (g := (mkF m 54 #[.val (.ref xa), .val (.int xl), .val (.int (Int32.ofNat ic.length)), .unset] [(.int xl), (.ref b45)])) rfl rfl (hb hby d_prog_131_method_2_54) _ ?_
        show Steps p.tables e below (T51.setTop (mkF m 55 #[.val (.ref xa), .val (.int xl), .val (.int (Int32.ofNat ic.length)), .unset] [(.int (gI (growF ic xl) xl))])) _
        refine XS.istoreN X51.here hx rfl (hb hby d_prog_131_method_2_55) rfl (l' := #[.val (.ref xa), .val (.int xl), .val (.int (gI (growF ic xl) xl)), .unset]) rfl ?_
        show Steps p.tables e below (T51.setTop (mkF m 56 #[.val (.ref xa), .val (.int xl), .val (.int (gI (growF ic xl) xl)), .unset] [])) _
        refine XS.iloadN X51.here hx rfl (hb hby d_prog_131_method_2_56) rfl ?_
        show Steps p.tables e below (T51.setTop (mkF m 57 #[.val (.ref xa), .val (.int xl), .val (.int (gI (growF ic xl) xl)), .unset] [(.int (gI (growF ic xl) xl))])) _
        refine XS.aloadN X51.here hx rfl (hb hby d_prog_131_method_2_57) rfl rfl ?_
        show Steps p.tables e below (T51.setTop (mkF m 58 #[.val (.ref xa), .val (.int xl), .val (.int (gI (growF ic xl) xl)), .unset] [(.ref xa), (.int (gI (growF ic xl) xl))])) _
        refine st53 _ ?_
        show Steps p.tables e below (T53.setTop (mkF m 61 #[.val (.ref xa), .val (.int xl), .val (.int (gI (growF ic xl) xl)), .unset] [(.ref bf), (.int (gI (growF ic xl) xl))])) _
        refine XS.aloadN X53.here hx rfl (hb hby d_prog_131_method_2_61) rfl rfl ?_
        show Steps p.tables e below (T53.setTop (mkF m 62 #[.val (.ref xa), .val (.int xl), .val (.int (gI (growF ic xl) xl)), .unset] [(.ref xa), (.ref bf), (.int (gI (growF ic xl) xl))])) _
        refine st54 _ ?_
        show Steps p.tables e below (T54.setTop (mkF m 65 #[.val (.ref xa), .val (.int xl), .val (.int (gI (growF ic xl) xl)), .unset] [(.int dep), (.ref bf), (.int (gI (growF ic xl) xl))])) _
        refine X54.iaload hx (j := dep) (v := (.int (gI fc dep))) (by rw [e54]; exact Ar55.1) (State.isArrayOf_alike hZ.alike Ar55.2.1) Ar55.2.2 hin55 hat55 (g := (mkF m 65 #[.val (.ref xa), .val (.int xl), .val (.int (gI (growF ic xl) xl)), .unset] [(.int dep), (.ref bf), (.int (gI (growF ic xl) xl))])) rfl rfl (hb hby d_prog_131_method_2_65) _ ?_
        show Steps p.tables e below (T54.setTop (mkF m 66 #[.val (.ref xa), .val (.int xl), .val (.int (gI (growF ic xl) xl)), .unset] [(.int (gI fc dep)), (.int (gI (growF ic xl) xl))])) _
        refine XS.icmpNo X54.here hx rfl (hb hby d_prog_131_method_2_66) rfl (flt hc66).1 ?_
        show Steps p.tables e below (T54.setTop (mkF m 69 #[.val (.ref xa), .val (.int xl), .val (.int (gI (growF ic xl) xl)), .unset] [])) _
        refine XS.aloadN X54.here hx rfl (hb hby d_prog_131_method_2_69) rfl rfl ?_
        show Steps p.tables e below (T54.setTop (mkF m 70 #[.val (.ref xa), .val (.int xl), .val (.int (gI (growF ic xl) xl)), .unset] [(.ref xa)])) _
        refine st56 _ ?_
        show Steps p.tables e below (T56.setTop (mkF m 73 #[.val (.ref xa), .val (.int xl), .val (.int (gI (growF ic xl) xl)), .unset] [(.ref bv)])) _
        refine XS.iloadN X56.here hx rfl (hb hby d_prog_131_method_2_73) rfl ?_
        show Steps p.tables e below (T56.setTop (mkF m 74 #[.val (.ref xa), .val (.int xl), .val (.int (gI (growF ic xl) xl)), .unset] [(.int (gI (growF ic xl) xl)), (.ref bv)])) _
        jvm_step X56.here [X56.here.top, hx, (hb hby d_prog_131_method_2_74), Value.category]
        show Steps p.tables e below (T56.setTop (mkF m 75 #[.val (.ref xa), .val (.int xl), .val (.int (gI (growF ic xl) xl)), .unset] [(.int (gI (growF ic xl) xl)), (.ref bv), (.int (gI (growF ic xl) xl)), (.ref bv)])) _
        refine X56.iaload hx (j := (gI (growF ic xl) xl)) (v := (.int (gI cv (gI (growF ic xl) xl)))) (by rw [e56]; exact Ar57.1) (State.isArrayOf_alike hZ.alike Ar57.2.1) Ar57.2.2 hin57 hat57 (g := (mkF m 75 #[.val (.ref xa), .val (.int xl), .val (.int (gI (growF ic xl) xl)), .unset] [(.int (gI (growF ic xl) xl)), (.ref bv), (.int (gI (growF ic xl) xl)), (.ref bv)])) rfl rfl (hb hby d_prog_131_method_2_75) _ ?_
        show Steps p.tables e below (T56.setTop (mkF m 76 #[.val (.ref xa), .val (.int xl), .val (.int (gI (growF ic xl) xl)), .unset] [(.int (gI cv (gI (growF ic xl) xl))), (.int (gI (growF ic xl) xl)), (.ref bv)])) _
        refine XS.iconst X56.here hx rfl (hb hby d_prog_131_method_2_76) ?_
        show Steps p.tables e below (T56.setTop (mkF m 77 #[.val (.ref xa), .val (.int xl), .val (.int (gI (growF ic xl) xl)), .unset] [(.int (1 : Int32)), (.int (gI cv (gI (growF ic xl) xl))), (.int (gI (growF ic xl) xl)), (.ref bv)])) _
        refine XS.iadd X56.here hx rfl (hb hby d_prog_131_method_2_77) rfl ?_
        show Steps p.tables e below (T56.setTop (mkF m 78 #[.val (.ref xa), .val (.int xl), .val (.int (gI (growF ic xl) xl)), .unset] [(.int ((gI cv (gI (growF ic xl) xl)) + (1 : Int32))), (.int (gI (growF ic xl) xl)), (.ref bv)])) _
        refine st58 _ ?_
        show Steps p.tables e below (T58.setTop (mkF m 79 #[.val (.ref xa), .val (.int xl), .val (.int (gI (growF ic xl) xl)), .unset] [])) _
        refine XS.aloadN X58.here hx rfl (hb hby d_prog_131_method_2_79) rfl rfl ?_
        show Steps p.tables e below (T58.setTop (mkF m 80 #[.val (.ref xa), .val (.int xl), .val (.int (gI (growF ic xl) xl)), .unset] [(.ref xa)])) _
        refine st59 _ ?_
        show Steps p.tables e below (T59.setTop (mkF m 83 #[.val (.ref xa), .val (.int xl), .val (.int (gI (growF ic xl) xl)), .unset] [(.ref bv)])) _
        refine XS.iloadN X59.here hx rfl (hb hby d_prog_131_method_2_83) rfl ?_
        show Steps p.tables e below (T59.setTop (mkF m 84 #[.val (.ref xa), .val (.int xl), .val (.int (gI (growF ic xl) xl)), .unset] [(.int (gI (growF ic xl) xl)), (.ref bv)])) _
        refine X59.iaload hx (j := (gI (growF ic xl) xl)) (v := (.int (gI (sI cv (gI (growF ic xl) xl) ((gI cv (gI (growF ic xl) xl)) + (1 : Int32))) (gI (growF ic xl) xl)))) (by rw [e59]; exact Ar60.1) (State.isArrayOf_alike hZ.alike Ar60.2.1) Ar60.2.2 hin60 hat60 (g := (mkF m 84 #[.val (.ref xa), .val (.int xl), .val (.int (gI (growF ic xl) xl)), .unset] [(.int (gI (growF ic xl) xl)), (.ref bv)])) rfl rfl (hb hby d_prog_131_method_2_84) _ ?_
        show Steps p.tables e below (T59.setTop (mkF m 85 #[.val (.ref xa), .val (.int xl), .val (.int (gI (growF ic xl) xl)), .unset] [(.int (gI (sI cv (gI (growF ic xl) xl) ((gI cv (gI (growF ic xl) xl)) + (1 : Int32))) (gI (growF ic xl) xl)))])) _
        refine XS.istoreN X59.here hx rfl (hb hby d_prog_131_method_2_85) rfl (l' := #[.val (.ref xa), .val (.int xl), .val (.int (gI (growF ic xl) xl)), .val (.int (gI (sI cv (gI (growF ic xl) xl) ((gI cv (gI (growF ic xl) xl)) + (1 : Int32))) (gI (growF ic xl) xl)))]) rfl ?_
        show Steps p.tables e below (T59.setTop (mkF m 86 #[.val (.ref xa), .val (.int xl), .val (.int (gI (growF ic xl) xl)), .val (.int (gI (sI cv (gI (growF ic xl) xl) ((gI cv (gI (growF ic xl) xl)) + (1 : Int32))) (gI (growF ic xl) xl)))] [])) _
        refine XS.goto X59.here hx rfl (pc0 := 86) (pc' := 96) rfl (hb hby d_prog_131_method_2_86) (by decide) (by decide) ?_
        show Steps p.tables e below (T59.setTop (mkF m 96 #[.val (.ref xa), .val (.int xl), .val (.int (gI (growF ic xl) xl)), .val (.int (gI (sI cv (gI (growF ic xl) xl) ((gI cv (gI (growF ic xl) xl)) + (1 : Int32))) (gI (growF ic xl) xl)))] [])) _
        refine XS.iloadN X59.here hx rfl (hb hby d_prog_131_method_2_96) rfl ?_
        show Steps p.tables e below (T59.setTop (mkF m 97 #[.val (.ref xa), .val (.int xl), .val (.int (gI (growF ic xl) xl)), .val (.int (gI (sI cv (gI (growF ic xl) xl) ((gI cv (gI (growF ic xl) xl)) + (1 : Int32))) (gI (growF ic xl) xl)))] [(.int (gI (sI cv (gI (growF ic xl) xl) ((gI cv (gI (growF ic xl) xl)) + (1 : Int32))) (gI (growF ic xl) xl)))])) _
        exact retI X59 hx Bd.returns (hb hby d_prog_131_method_2_97) (by rw [show (gI (sI cv (gI (growF ic xl) xl) ((gI cv (gI (growF ic xl) xl)) + (1 : Int32))) (gI (growF ic xl) xl)) = (nextR (ic, cl, cv, hc, fc, cnt, dep) xl) from eR.symm]; exact hr)
      · show Q_next Z xa xl ic cl cv hc fc cnt dep h0 n0 _ T59.heap _
        rw [e59]
        exact ⟨rfl, N58, (by rw [eS]; exact (show SP Z n0 _ xa _ cl _ hc fc cnt dep from ⟨b45, bl, bv, bh, bf, Ex58_xa, F58_innermostCount, F58_countLabel, F58_countValue, F58_hiddenCount, F58_firstCount, F58_counts, F58_depth, A58_b45, A58_bl, A58_bv, A58_bh, A58_bf, ⟨(Ne.symm ne_bl_b45), (Ne.symm ne_bv_b45), (Ne.symm ne_bh_b45), (Ne.symm ne_bf_b45), ne12, ne13, ne14, ne23, ne24, ne34⟩, ⟨ga, g_b45, g1, g2, g3, g4⟩⟩))⟩
def Q_nextw (Z : State) (xa : Addr) (xl : Int32) (σ : St) (h0 : Heap) (n0 : Nat) (v : Option Value) (h : Heap) (L : List Loc) : Prop := v = some (.int (nextR σ xl)) ∧ Fr n0 L ∧ SPs Z n0 h xa (nextS σ xl)
theorem rm_nextw (l : Launch) (Z : State) (a0 : Array Value) (hw : ∀ d ∈ tables_1, d.before a0 Z = true) (ws : List Jvm.Cond) (xa : Addr) (xl : Int32) (σ : St) (h0 : Heap) (n0 : Nat) (Z0 : n0 ≤ h0.size) (hS : SPs Z n0 h0 xa σ) (hok : nextOk σ xl = true) :
    MetFree l (⟨"com/example/orsay/orsay/SiblingPositions", "next", "(I)I"⟩ : MethodName) (head1 (Jvm.Cond.code (⟨"com/example/orsay/orsay/SiblingPositions", "next", "(I)I"⟩ : MethodName) prog_131_method_2_code 4 (some .int) :: ws) ({ frames := 2, cells := 1, slots := 8, locals := 79 } : Room)) (fun a U => a = #[(.ref xa), (.int xl)] ∧ Z.Warmed39 U.vm ∧ U.heap = h0) (fun _ _ _ _ _ => True) (fun _ U o U' => ∃ v L, o = .returned v ∧ Q_nextw Z xa xl σ h0 n0 v U'.heap L ∧ FrameEnd U o U' L ({ frames := 2, cells := 1, slots := 8, locals := 79 } : Room).cells ({ frames := 2, cells := 1, slots := 8, locals := 79 } : Room).slots) := by
  obtain ⟨ic, cl, cv, hc, fc, cnt, dep⟩ := σ
  exact rm_next l Z a0 hw ws xa xl ic cl cv hc fc cnt dep h0 n0 Z0 hS hok
def Q_openw (Z : State) (xa : Addr) (σ : St) (h0 : Heap) (n0 : Nat) (v : Option Value) (h : Heap) (L : List Loc) : Prop := v = none ∧ Fr n0 L ∧ SPs Z n0 h xa (openS σ)
theorem rm_openw (l : Launch) (Z : State) (a0 : Array Value) (hw : ∀ d ∈ tables_1, d.before a0 Z = true) (ws : List Jvm.Cond) (xa : Addr) (σ : St) (h0 : Heap) (n0 : Nat) (Z0 : n0 ≤ h0.size) (hS : SPs Z n0 h0 xa σ) (hok : openOk σ = true) :
    MetFree l (⟨"com/example/orsay/orsay/SiblingPositions", "open", "()V"⟩ : MethodName) (head1 (Jvm.Cond.code (⟨"com/example/orsay/orsay/SiblingPositions", "open", "()V"⟩ : MethodName) prog_131_method_3_code 1 none :: ws) ({ frames := 0, cells := 0, slots := 0, locals := 0 } : Room)) (fun a U => a = #[(.ref xa)] ∧ Z.Warmed39 U.vm ∧ U.heap = h0) (fun _ _ _ _ _ => True) (fun _ U o U' => ∃ v L, o = .returned v ∧ Q_openw Z xa σ h0 n0 v U'.heap L ∧ FrameEnd U o U' L ({ frames := 0, cells := 0, slots := 0, locals := 0 } : Room).cells ({ frames := 0, cells := 0, slots := 0, locals := 0 } : Room).slots) := by
  obtain ⟨ic, cl, cv, hc, fc, cnt, dep⟩ := σ
  exact rm_open l Z a0 hw ws xa ic cl cv hc fc cnt dep h0 n0 Z0 hS hok
def Q_closew (Z : State) (xa : Addr) (σ : St) (h0 : Heap) (n0 : Nat) (v : Option Value) (h : Heap) (L : List Loc) : Prop := v = none ∧ Fr n0 L ∧ SPs Z n0 h xa (closeS σ)
theorem rm_closew (l : Launch) (Z : State) (a0 : Array Value) (hw : ∀ d ∈ tables_1, d.before a0 Z = true) (ws : List Jvm.Cond) (xa : Addr) (σ : St) (h0 : Heap) (n0 : Nat) (Z0 : n0 ≤ h0.size) (hS : SPs Z n0 h0 xa σ) (hok : closeOk σ = true) :
    MetFree l (⟨"com/example/orsay/orsay/SiblingPositions", "close", "()V"⟩ : MethodName) (head1 (Jvm.Cond.code (⟨"com/example/orsay/orsay/SiblingPositions", "close", "()V"⟩ : MethodName) prog_131_method_4_code 1 none :: ws) ({ frames := 0, cells := 0, slots := 0, locals := 0 } : Room)) (fun a U => a = #[(.ref xa)] ∧ Z.Warmed39 U.vm ∧ U.heap = h0) (fun _ _ _ _ _ => True) (fun _ U o U' => ∃ v L, o = .returned v ∧ Q_closew Z xa σ h0 n0 v U'.heap L ∧ FrameEnd U o U' L ({ frames := 0, cells := 0, slots := 0, locals := 0 } : Room).cells ({ frames := 0, cells := 0, slots := 0, locals := 0 } : Room).slots) := by
  obtain ⟨ic, cl, cv, hc, fc, cnt, dep⟩ := σ
  exact rm_close l Z a0 hw ws xa ic cl cv hc fc cnt dep h0 n0 Z0 hS hok
set_option maxRecDepth 65536 in
theorem all_0 : (Cs.all fun c1 => Ls.all fun l1 => Cs.all fun c2 => Ls.all fun l2 => Ls.all fun l3 => Cs.all fun c4 => Ls.all fun l4 => Ls.all fun l5 => allOk (0 : Int32) c1 l1 c2 l2 l3 c4 l4 l5) = true := by decide +kernel
set_option maxRecDepth 65536 in
theorem all_1 : (Cs.all fun c1 => Ls.all fun l1 => Cs.all fun c2 => Ls.all fun l2 => Ls.all fun l3 => Cs.all fun c4 => Ls.all fun l4 => Ls.all fun l5 => allOk (1 : Int32) c1 l1 c2 l2 l3 c4 l4 l5) = true := by decide +kernel
set_option maxRecDepth 65536 in
theorem all_2 : (Cs.all fun c1 => Ls.all fun l1 => Cs.all fun c2 => Ls.all fun l2 => Ls.all fun l3 => Cs.all fun c4 => Ls.all fun l4 => Ls.all fun l5 => allOk (2 : Int32) c1 l1 c2 l2 l3 c4 l4 l5) = true := by decide +kernel
set_option maxRecDepth 65536 in
theorem all_3 : (Cs.all fun c1 => Ls.all fun l1 => Cs.all fun c2 => Ls.all fun l2 => Ls.all fun l3 => Cs.all fun c4 => Ls.all fun l4 => Ls.all fun l5 => allOk (3 : Int32) c1 l1 c2 l2 l3 c4 l4 l5) = true := by decide +kernel
theorem all_l : (Ls.all fun l0 => Cs.all fun c1 => Ls.all fun l1 => Cs.all fun c2 => Ls.all fun l2 => Ls.all fun l3 => Cs.all fun c4 => Ls.all fun l4 => Ls.all fun l5 => allOk l0 c1 l1 c2 l2 l3 c4 l4 l5) = true := by
  refine List.all_eq_true.mpr fun l0 h0 => ?_
  rcases List.mem_cons.mp h0 with rfl | h0
  · exact all_0
  rcases List.mem_cons.mp h0 with rfl | h0
  · exact all_1
  rcases List.mem_cons.mp h0 with rfl | h0
  · exact all_2
  rcases List.mem_cons.mp h0 with rfl | h0
  · exact all_3
  cases h0
theorem all_ok {l0 c1 l1 c2 l2 l3 c4 l4 l5 : Int32} (h0 : l0 ∈ Ls) (g1 : c1 ∈ Cs) (h1 : l1 ∈ Ls) (g2 : c2 ∈ Cs) (h2 : l2 ∈ Ls) (h3 : l3 ∈ Ls) (g4 : c4 ∈ Cs) (h4 : l4 ∈ Ls) (h5 : l5 ∈ Ls) : allOk l0 c1 l1 c2 l2 l3 c4 l4 l5 = true := by
  have q := List.all_eq_true.mp all_l l0 h0
  have q := List.all_eq_true.mp q c1 g1
  have q := List.all_eq_true.mp q l1 h1
  have q := List.all_eq_true.mp q c2 g2
  have q := List.all_eq_true.mp q l2 h2
  have q := List.all_eq_true.mp q l3 h3
  have q := List.all_eq_true.mp q c4 g4
  have q := List.all_eq_true.mp q l4 h4
  exact List.all_eq_true.mp q l5 h5
def lbF (x : Int32) : Int32 := x &&& (3 : Int32)
def bitF (x : Int32) : Int32 := ((x.toUInt32 >>> ((2 : Int32) &&& 31).toUInt32).toInt32) &&& (1 : Int32)
def cF (x : Int32) : Int32 := if bitF x = 0 then 0 else 1
theorem lb_mem (x : Int32) : lbF x ∈ Ls := by
  have h : (lbF x).toInt = x.toInt % (2 ^ 2 : Nat) := c_mask x 3 2 (by decide) (by decide)
  have q : (lbF x).toInt = 0 ∨ (lbF x).toInt = 1 ∨ (lbF x).toInt = 2 ∨ (lbF x).toInt = 3 := by omega
  rcases q with q | q | q | q
  · rw [show lbF x = 0 from Int32.toInt_inj.mp q]; decide
  · rw [show lbF x = 1 from Int32.toInt_inj.mp q]; decide
  · rw [show lbF x = 2 from Int32.toInt_inj.mp q]; decide
  · rw [show lbF x = 3 from Int32.toInt_inj.mp q]; decide
theorem c_mem (x : Int32) : cF x ∈ Cs := by unfold cF; split <;> decide
theorem cnd_pos {c l : Int32} {σ : St} (hz : ¬ c = 0) (h : cndOk c σ l = true) : nextOk σ l = true := by simpa only [cndOk, decide_eq_false hz, Bool.false_or] using h
theorem pn_2 : plainName "com/example/orsay/orsay/SiblingPositionsClosePinLaw" = true := by first | (simp [plainName, overriddenIn]; done) | decide +kernel
theorem pd_5 : parseMethodDescriptor "()V" = some ⟨[], none⟩ := by decide +kernel
theorem pd_6 : parseMethodDescriptor "(I)I" = some ⟨[.int], some .int⟩ := by decide +kernel
theorem ef_law (m : MethodId) (xa : Int32) (xb : Int32) (xc : Int32) (xd : Int32) (xe : Int32) (xf : Int32) : entryFrame m #[(.int xa), (.int xb), (.int xc), (.int xd), (.int xe), (.int xf)] maxLocals = mkF m 0 #[.val (.int xa), .val (.int xb), .val (.int xc), .val (.int xd), .val (.int xe), .val (.int xf), .unset, .unset, .unset, .unset, .unset, .unset, .unset, .unset, .unset, .unset, .unset, .unset] [] := by first | (simp [entryFrame, mkF, argsToLocals, Value.category, maxLocals]; done) | rfl
def Q_law (Z : State) (xa : Int32) (xb : Int32) (xc : Int32) (xd : Int32) (xe : Int32) (xf : Int32) (h0 : Heap) (n0 : Nat) (v : Option Value) (h : Heap) (L : List Loc) : Prop := v = some (.int (1 : Int32)) ∧ Fr n0 L ∧ True
set_option maxRecDepth 65536 in
set_option maxHeartbeats 40000000 in
theorem rm_law (l : Launch) (Z : State) (a0 : Array Value) (hw : ∀ d ∈ tables_1, d.before a0 Z = true) (ws : List Jvm.Cond) (xa : Int32) (xb : Int32) (xc : Int32) (xd : Int32) (xe : Int32) (xf : Int32) (h0 : Heap) (n0 : Nat) (Z0 : n0 ≤ h0.size) :
    MetFree l x (head1 (Jvm.Cond.code x code maxLocals ret :: ws) room_1) (fun a U => a = #[(.int xa), (.int xb), (.int xc), (.int xd), (.int xe), (.int xf)] ∧ Z.Warmed39 U.vm ∧ U.heap = h0) (fun _ _ _ _ _ => True) (fun _ U o U' => ∃ v L, o = .returned v ∧ Q_law Z xa xb xc xd xe xf h0 n0 v U'.heap L ∧ FrameEnd U o U' L room_1.cells room_1.slots) := by
  refine MetFree.of_bodySF (plainFor_of_name pn_2) hisR ?_
  intro p e s m args below meth c s₁ Bd hml0 hP hK
  obtain ⟨rfl, hZ, hh⟩ := hP
  have hx := Bd.exec
  have hby := Bd.bytes
  have hml : c.maxLocals = 18 := hml0
  have hown : s.vm.findClass "com/example/orsay/orsay/SiblingPositionsClosePinLaw" = some m.cls := findClass_of_methodNamed Bd.named
  have hnm := (name_of_methodNamed Bd.named Bd.method).1
  have X0 : Stand p l e room_1 s m #[(.int xa), (.int xb), (.int xc), (.int xd), (.int xe), (.int xf)] below meth c s₁ [] 0 0 := Stand.of_body Bd
  have e0 : s₁.heap = h0 := by rw [← hh, Bd.state]; rfl
  have N0 := Fr.nil n0
  have pre0 : ∀ t, Steps p.tables e below (s₁.setTop (mkF m 0 #[.val (.int xa), .val (.int xb), .val (.int xc), .val (.int xd), .val (.int xe), .val (.int xf), .unset, .unset, .unset, .unset, .unset, .unset, .unset, .unset, .unset, .unset, .unset, .unset] [])) t → Steps p.tables e below (s₁.setTop (entryFrame m #[(.int xa), (.int xb), (.int xc), (.int xd), (.int xe), (.int xf)] maxLocals)) t := fun t k => castTop (ef_law m xa xb xc xd xe xf) k
  obtain ⟨hrun0, hone⟩ : runOk (lbF xa) (cF xa) (lbF xb) (cF xb) (lbF xc) (lbF xd) (cF xe) (lbF xe) (lbF xf) = true ∧ ok4 (lbF xa) (cF xa) (lbF xb) (cF xb) (lbF xc) (lbF xd) (cF xe) (lbF xe) (lbF xf) = 1 := by simpa only [allOk, Bool.and_eq_true, decide_eq_true_eq] using all_ok (lb_mem xa) (c_mem xa) (lb_mem xb) (c_mem xb) (lb_mem xc) (lb_mem xd) (c_mem xe) (lb_mem xe) (lb_mem xf)
  obtain ⟨r1, r2, r3, r4, r5, r6, r7, r8, r9, r10⟩ : nextOk initS (lbF xa) = true ∧ openOk (nextS initS (lbF xa)) = true ∧ cndOk (cF xa) (sg1 (lbF xa)) (lbF xb) = true ∧ cndOk (cF xb) (cndS (cF xa) (sg1 (lbF xa)) (lbF xb)) (lbF xc) = true ∧ closeOk (sg2 (lbF xa) (cF xa) (lbF xb) (cF xb) (lbF xc)) = true ∧ nextOk (closeS (sg2 (lbF xa) (cF xa) (lbF xb) (cF xb) (lbF xc))) (lbF xd) = true ∧ openOk (nextS (closeS (sg2 (lbF xa) (cF xa) (lbF xb) (cF xb) (lbF xc))) (lbF xd)) = true ∧ cndOk (cF xe) (sg3 (lbF xa) (cF xa) (lbF xb) (cF xb) (lbF xc) (lbF xd)) (lbF xe) = true ∧ closeOk (cndS (cF xe) (sg3 (lbF xa) (cF xa) (lbF xb) (cF xb) (lbF xc) (lbF xd)) (lbF xe)) = true ∧ nextOk (sg4 (lbF xa) (cF xa) (lbF xb) (cF xb) (lbF xc) (lbF xd) (cF xe) (lbF xe)) (lbF xf) = true := by simpa only [runOk, Bool.and_eq_true] using hrun0
  obtain ⟨T1, h1, X1, e1, E1, A1, D1, -, st1⟩ := newO X0 hx hZ hown (hw _ (List.mem_of_getElem? (i := 0) rfl)) (hw _ (List.mem_of_getElem? (i := 1) rfl)) (hw _ (List.mem_of_getElem? (i := 2) rfl)) e0 (g := (mkF m 78 #[.val (.int xa), .val (.int xb), .val (.int xc), .val (.int xd), .val (.int xe), .val (.int xf), .val (.int (lbF xa)), .val (.int (lbF xb)), .val (.int (lbF xc)), .val (.int (lbF xd)), .val (.int (lbF xe)), .val (.int (lbF xf)), .val (.int (cF xa)), .val (.int (cF xb)), .val (.int (cF xe)), .unset, .unset, .unset] [])) rfl (hb hby at_78) (by decide) (by decide)
  obtain ⟨b1, g1⟩ : ∃ z, z = h0.size := ⟨_, rfl⟩
  rw [← g1] at A1 D1 st1
  have g_b1 : n0 ≤ b1 := Nat.le_trans Z0 (Nat.le_of_eq g1.symm)
  have Fn_innermostCount : Fld Z h1 b1 "com/example/orsay/orsay/SiblingPositions" "innermostCount" "[I" .null := D1 (Or.inl (hw _ (List.mem_of_getElem? (i := 11) rfl))) (ty := (.array .int)) (by decide)
  have Fn_countLabel : Fld Z h1 b1 "com/example/orsay/orsay/SiblingPositions" "countLabel" "[I" .null := D1 (Or.inl (hw _ (List.mem_of_getElem? (i := 13) rfl))) (ty := (.array .int)) (by decide)
  have Fn_countValue : Fld Z h1 b1 "com/example/orsay/orsay/SiblingPositions" "countValue" "[I" .null := D1 (Or.inl (hw _ (List.mem_of_getElem? (i := 15) rfl))) (ty := (.array .int)) (by decide)
  have Fn_hiddenCount : Fld Z h1 b1 "com/example/orsay/orsay/SiblingPositions" "hiddenCount" "[I" .null := D1 (Or.inl (hw _ (List.mem_of_getElem? (i := 17) rfl))) (ty := (.array .int)) (by decide)
  have Fn_firstCount : Fld Z h1 b1 "com/example/orsay/orsay/SiblingPositions" "firstCount" "[I" .null := D1 (Or.inl (hw _ (List.mem_of_getElem? (i := 19) rfl))) (ty := (.array .int)) (by decide)
  have Fn_depth : Fld Z h1 b1 "com/example/orsay/orsay/SiblingPositions" "depth" "I" (.int (0 : Int32)) := D1 (Or.inl (hw _ (List.mem_of_getElem? (i := 47) rfl))) (ty := .int) (by decide)
  have Fn_counts : Fld Z h1 b1 "com/example/orsay/orsay/SiblingPositions" "counts" "I" (.int (0 : Int32)) := D1 (Or.inl (hw _ (List.mem_of_getElem? (i := 53) rfl))) (ty := .int) (by decide)
  obtain ⟨_, _, ⟨T2, L2, k2, n2⟩, -, X2, ⟨Lc2, hQ2, l2, y2, z2⟩, st2⟩ := X1.specialBack hx (y := (⟨"com/example/orsay/orsay/SiblingPositions", "<init>", "()V"⟩ : MethodName)) rfl hown (mvT hZ (hw _ (List.mem_of_getElem? (i := 3) rfl))) (mvT hZ (hw _ (List.mem_of_getElem? (i := 4) rfl))) (mvT hZ (hw _ (List.mem_of_getElem? (i := 5) rfl))) (by decide) (backOf (W := 1) (rm_init l Z a0 hw [] b1 h1 n0 (Nat.le_trans Z0 E1.1) A1 g_b1 Fn_innermostCount Fn_countLabel Fn_countValue Fn_hiddenCount Fn_firstCount Fn_counts Fn_depth) hZ (hw _ (List.mem_of_getElem? (i := 5) rfl)) (hw _ (List.mem_of_getElem? (i := 2) rfl)) (by decide) (by decide)) (g := (mkF m 82 #[.val (.int xa), .val (.int xb), .val (.int xc), .val (.int xd), .val (.int xe), .val (.int xf), .val (.int (lbF xa)), .val (.int (lbF xb)), .val (.int (lbF xc)), .val (.int (lbF xd)), .val (.int (lbF xe)), .val (.int (lbF xf)), .val (.int (cF xa)), .val (.int (cF xb)), .val (.int (cF xe)), .unset, .unset, .unset] [(.ref b1), (.ref b1)])) rfl (by rw [hml]; rfl) (Steps.refl _) (a := b1) (argsL := []) (rest := [(.ref b1)]) (lenOf pd_5 rfl) rfl (by show 2 * 0 + _ ≤ _; exact Nat.le_of_eq rfl) (hb hby at_82) (fun _ _ => ⟨rfl, e1, (by decide : 1 + 5 ≤ _), (by decide : 7 + 64 ≤ _)⟩)
  dsimp only [Pt.U, Pt.locs, Pt.cells, Pt.slots] at X2 l2 y2 z2 st2 hQ2
  subst l2 y2 z2
  obtain ⟨rfl, N2q, hq2⟩ := hQ2
  have N2 := Fr.app N0 N2q
  have hS2 : SPs Z n0 T2.heap b1 initS := hq2
  obtain ⟨cq3, kq3, q3a, q3b, q3c⟩ := isOf hZ rfl (hS2.exa)
  obtain ⟨_, _, ⟨T3, L3, k3, n3⟩, -, X3, ⟨Lc3, hQ3, l3, y3, z3⟩, st3⟩ := X2.virtualBack hx (y := (⟨"com/example/orsay/orsay/SiblingPositions", "next", "(I)I"⟩ : MethodName)) (z := (⟨"com/example/orsay/orsay/SiblingPositions", "next", "(I)I"⟩ : MethodName)) hown (mvT hZ (hw _ (List.mem_of_getElem? (i := 20) rfl))) (mvT hZ (hw _ (List.mem_of_getElem? (i := 21) rfl))) (notFace_of_selects (args := #[]) (mvT hZ (hw _ (List.mem_of_getElem? (i := 23) rfl)))) (mvT hZ (hw _ (List.mem_of_getElem? (i := 23) rfl))) (mvT hZ (hw _ (List.mem_of_getElem? (i := 22) rfl))) (by decide) (backOf (W := 0) (rm_nextw l Z a0 hw [] b1 (lbF xa) initS T2.heap n0 hS2.size hS2 r1) hZ (hw _ (List.mem_of_getElem? (i := 24) rfl)) (hw _ (List.mem_of_getElem? (i := 2) rfl)) (by decide) (by decide)) q3a q3c (g := (mkF m 91 #[.val (.int xa), .val (.int xb), .val (.int xc), .val (.int xd), .val (.int xe), .val (.int xf), .val (.int (lbF xa)), .val (.int (lbF xb)), .val (.int (lbF xc)), .val (.int (lbF xd)), .val (.int (lbF xe)), .val (.int (lbF xf)), .val (.int (cF xa)), .val (.int (cF xb)), .val (.int (cF xe)), .val (.ref b1), .unset, .unset] [(.int (lbF xa)), (.ref b1)])) rfl (by rw [hml]; rfl) (Steps.refl _) (argsL := [(.int (lbF xa))]) (rest := []) (lenOf pd_6 rfl) rfl (by show 2 * 0 + _ ≤ _; exact Nat.le_of_eq rfl) (hb hby at_91) (fun _ _ => ⟨rfl, rfl, (by decide : 6 + 1 ≤ _), (by decide : 71 + 8 ≤ _)⟩)
  dsimp only [Pt.U, Pt.locs, Pt.cells, Pt.slots] at X3 l3 y3 z3 st3 hQ3
  subst l3 y3 z3
  obtain ⟨rfl, N3q, hq3⟩ := hQ3
  have N3 := Fr.app N2 N3q
  have hS3 : SPs Z n0 T3.heap b1 (nextS initS (lbF xa)) := hq3
  obtain ⟨cq4, kq4, q4a, q4b, q4c⟩ := isOf hZ rfl (hS3.exa)
  obtain ⟨_, _, ⟨T4, L4, k4, n4⟩, -, X4, ⟨Lc4, hQ4, l4, y4, z4⟩, st4⟩ := X3.virtualBack hx (y := (⟨"com/example/orsay/orsay/SiblingPositions", "open", "()V"⟩ : MethodName)) (z := (⟨"com/example/orsay/orsay/SiblingPositions", "open", "()V"⟩ : MethodName)) hown (mvT hZ (hw _ (List.mem_of_getElem? (i := 54) rfl))) (mvT hZ (hw _ (List.mem_of_getElem? (i := 55) rfl))) (notFace_of_selects (args := #[]) (mvT hZ (hw _ (List.mem_of_getElem? (i := 57) rfl)))) (mvT hZ (hw _ (List.mem_of_getElem? (i := 57) rfl))) (mvT hZ (hw _ (List.mem_of_getElem? (i := 56) rfl))) (by decide) (backOf (W := 0) (rm_openw l Z a0 hw [] b1 (nextS initS (lbF xa)) T3.heap n0 hS3.size hS3 r2) hZ (hw _ (List.mem_of_getElem? (i := 58) rfl)) (hw _ (List.mem_of_getElem? (i := 2) rfl)) (by decide) (by decide)) q4a q4c (g := (mkF m 107 #[.val (.int xa), .val (.int xb), .val (.int xc), .val (.int xd), .val (.int xe), .val (.int xf), .val (.int (lbF xa)), .val (.int (lbF xb)), .val (.int (lbF xc)), .val (.int (lbF xd)), .val (.int (lbF xe)), .val (.int (lbF xf)), .val (.int (cF xa)), .val (.int (cF xb)), .val (.int (cF xe)), .val (.ref b1), .val (.int (eqF (nextR initS (lbF xa)) (1 : Int32))), .unset] [(.ref b1)])) rfl (by rw [hml]; rfl) (Steps.refl _) (argsL := []) (rest := []) (lenOf pd_5 rfl) rfl (by show 2 * 0 + _ ≤ _; exact Nat.le_of_eq rfl) (hb hby at_107) (fun _ _ => ⟨rfl, rfl, (by decide : 7 + 0 ≤ _), (by decide : 79 + 0 ≤ _)⟩)
  dsimp only [Pt.U, Pt.locs, Pt.cells, Pt.slots] at X4 l4 y4 z4 st4 hQ4
  subst l4 y4 z4
  obtain ⟨rfl, N4q, hq4⟩ := hQ4
  have N4 := Fr.app N3 N4q
  have hS4 : SPs Z n0 T4.heap b1 (sg1 (lbF xa)) := hq4
  obtain ⟨T6, L6, X6, N6, hS6, st6⟩ : ∃ (T' : State) (L' : List Loc), Stand p l e room_1 s m #[(.int xa), (.int xb), (.int xc), (.int xd), (.int xe), (.int xf)] below meth c T' L' 8 87 ∧ Fr n0 L' ∧ SPs Z n0 T'.heap b1 (cndS (cF xa) (sg1 (lbF xa)) (lbF xb)) ∧ ∀ target, Steps p.tables e below (T'.setTop (mkF m 136 #[.val (.int xa), .val (.int xb), .val (.int xc), .val (.int xd), .val (.int xe), .val (.int xf), .val (.int (lbF xa)), .val (.int (lbF xb)), .val (.int (lbF xc)), .val (.int (lbF xd)), .val (.int (lbF xe)), .val (.int (lbF xf)), .val (.int (cF xa)), .val (.int (cF xb)), .val (.int (cF xe)), .val (.ref b1), .val (.int (cndR (cF xa) (eqF (nextR initS (lbF xa)) (1 : Int32)) (sg1 (lbF xa)) (lbF xb) (1 : Int32))), .unset] [])) target → Steps p.tables e below (T4.setTop (mkF m 110 #[.val (.int xa), .val (.int xb), .val (.int xc), .val (.int xd), .val (.int xe), .val (.int xf), .val (.int (lbF xa)), .val (.int (lbF xb)), .val (.int (lbF xc)), .val (.int (lbF xd)), .val (.int (lbF xe)), .val (.int (lbF xf)), .val (.int (cF xa)), .val (.int (cF xb)), .val (.int (cF xe)), .val (.ref b1), .val (.int (eqF (nextR initS (lbF xa)) (1 : Int32))), .unset] [])) target := by
    by_cases hz : (cF xa) = (0 : Int32)
    · refine ⟨T4, _, X4.more (by decide) (by decide), N4, (by rw [show (cndS (cF xa) (sg1 (lbF xa)) (lbF xb)) = (sg1 (lbF xa)) from if_pos hz]; exact hS4), fun target kt => ?_⟩
      rw [show (cndR (cF xa) (eqF (nextR initS (lbF xa)) (1 : Int32)) (sg1 (lbF xa)) (lbF xb) (1 : Int32)) = (eqF (nextR initS (lbF xa)) (1 : Int32)) from if_pos hz] at kt
      show Steps p.tables e below (T4.setTop (mkF m 110 #[.val (.int xa), .val (.int xb), .val (.int xc), .val (.int xd), .val (.int xe), .val (.int xf), .val (.int (lbF xa)), .val (.int (lbF xb)), .val (.int (lbF xc)), .val (.int (lbF xd)), .val (.int (lbF xe)), .val (.int (lbF xf)), .val (.int (cF xa)), .val (.int (cF xb)), .val (.int (cF xe)), .val (.ref b1), .val (.int (eqF (nextR initS (lbF xa)) (1 : Int32))), .unset] [])) _
      refine XS.iload X4.here hx rfl (hb hby at_110) rfl ?_
      show Steps p.tables e below (T4.setTop (mkF m 112 #[.val (.int xa), .val (.int xb), .val (.int xc), .val (.int xd), .val (.int xe), .val (.int xf), .val (.int (lbF xa)), .val (.int (lbF xb)), .val (.int (lbF xc)), .val (.int (lbF xd)), .val (.int (lbF xe)), .val (.int (lbF xf)), .val (.int (cF xa)), .val (.int (cF xb)), .val (.int (cF xe)), .val (.ref b1), .val (.int (eqF (nextR initS (lbF xa)) (1 : Int32))), .unset] [(.int (cF xa))])) _
      refine XS.ifYes X4.here hx rfl (pc0 := 112) (pc' := 136) rfl (hb hby at_112) rfl ((if0 _ _).trans (teq hz).1) (by decide) (by decide) ?_
      exact kt
    · obtain ⟨cq5, kq5, q5a, q5b, q5c⟩ := isOf hZ rfl (hS4.exa)
      obtain ⟨_, _, ⟨T5, L5, k5, n5⟩, -, X5, ⟨Lc5, hQ5, l5, y5, z5⟩, st5⟩ := X4.virtualBack hx (y := (⟨"com/example/orsay/orsay/SiblingPositions", "next", "(I)I"⟩ : MethodName)) (z := (⟨"com/example/orsay/orsay/SiblingPositions", "next", "(I)I"⟩ : MethodName)) hown (mvT hZ (hw _ (List.mem_of_getElem? (i := 20) rfl))) (mvT hZ (hw _ (List.mem_of_getElem? (i := 21) rfl))) (notFace_of_selects (args := #[]) (mvT hZ (hw _ (List.mem_of_getElem? (i := 23) rfl)))) (mvT hZ (hw _ (List.mem_of_getElem? (i := 23) rfl))) (mvT hZ (hw _ (List.mem_of_getElem? (i := 22) rfl))) (by decide) (backOf (W := 1) (rm_nextw l Z a0 hw [] b1 (lbF xb) (sg1 (lbF xa)) T4.heap n0 hS4.size hS4 (cnd_pos hz r3)) hZ (hw _ (List.mem_of_getElem? (i := 24) rfl)) (hw _ (List.mem_of_getElem? (i := 2) rfl)) (by decide) (by decide)) q5a q5c (g := (mkF m 121 #[.val (.int xa), .val (.int xb), .val (.int xc), .val (.int xd), .val (.int xe), .val (.int xf), .val (.int (lbF xa)), .val (.int (lbF xb)), .val (.int (lbF xc)), .val (.int (lbF xd)), .val (.int (lbF xe)), .val (.int (lbF xf)), .val (.int (cF xa)), .val (.int (cF xb)), .val (.int (cF xe)), .val (.ref b1), .val (.int (eqF (nextR initS (lbF xa)) (1 : Int32))), .unset] [(.int (lbF xb)), (.ref b1), (.int (eqF (nextR initS (lbF xa)) (1 : Int32)))])) rfl (by rw [hml]; rfl) (Steps.refl _) (argsL := [(.int (lbF xb))]) (rest := [(.int (eqF (nextR initS (lbF xa)) (1 : Int32)))]) (lenOf pd_6 rfl) rfl (by show 2 * 0 + _ ≤ _; exact Nat.le_of_eq rfl) (hb hby at_121) (fun _ _ => ⟨rfl, rfl, (by decide : 7 + 1 ≤ _), (by decide : 79 + 8 ≤ _)⟩)
      dsimp only [Pt.U, Pt.locs, Pt.cells, Pt.slots] at X5 l5 y5 z5 st5 hQ5
      subst l5 y5 z5
      obtain ⟨rfl, N5q, hq5⟩ := hQ5
      have N5 := Fr.app N4 N5q
      have hS5 : SPs Z n0 T5.heap b1 (nextS (sg1 (lbF xa)) (lbF xb)) := hq5
      refine ⟨T5, _, X5.more (by decide) (by decide), N5, (by rw [show (cndS (cF xa) (sg1 (lbF xa)) (lbF xb)) = (nextS (sg1 (lbF xa)) (lbF xb)) from if_neg hz]; exact hS5), fun target kt => ?_⟩
      rw [show (cndR (cF xa) (eqF (nextR initS (lbF xa)) (1 : Int32)) (sg1 (lbF xa)) (lbF xb) (1 : Int32)) = ((eqF (nextR initS (lbF xa)) (1 : Int32)) &&& (eqF (nextR (sg1 (lbF xa)) (lbF xb)) (1 : Int32))) from if_neg hz] at kt
      show Steps p.tables e below (T4.setTop (mkF m 110 #[.val (.int xa), .val (.int xb), .val (.int xc), .val (.int xd), .val (.int xe), .val (.int xf), .val (.int (lbF xa)), .val (.int (lbF xb)), .val (.int (lbF xc)), .val (.int (lbF xd)), .val (.int (lbF xe)), .val (.int (lbF xf)), .val (.int (cF xa)), .val (.int (cF xb)), .val (.int (cF xe)), .val (.ref b1), .val (.int (eqF (nextR initS (lbF xa)) (1 : Int32))), .unset] [])) _
      refine XS.iload X4.here hx rfl (hb hby at_110) rfl ?_
      show Steps p.tables e below (T4.setTop (mkF m 112 #[.val (.int xa), .val (.int xb), .val (.int xc), .val (.int xd), .val (.int xe), .val (.int xf), .val (.int (lbF xa)), .val (.int (lbF xb)), .val (.int (lbF xc)), .val (.int (lbF xd)), .val (.int (lbF xe)), .val (.int (lbF xf)), .val (.int (cF xa)), .val (.int (cF xb)), .val (.int (cF xe)), .val (.ref b1), .val (.int (eqF (nextR initS (lbF xa)) (1 : Int32))), .unset] [(.int (cF xa))])) _
      refine XS.ifNo X4.here hx rfl (hb hby at_112) rfl ((if0 _ _).trans (feq hz).1) ?_
      show Steps p.tables e below (T4.setTop (mkF m 115 #[.val (.int xa), .val (.int xb), .val (.int xc), .val (.int xd), .val (.int xe), .val (.int xf), .val (.int (lbF xa)), .val (.int (lbF xb)), .val (.int (lbF xc)), .val (.int (lbF xd)), .val (.int (lbF xe)), .val (.int (lbF xf)), .val (.int (cF xa)), .val (.int (cF xb)), .val (.int (cF xe)), .val (.ref b1), .val (.int (eqF (nextR initS (lbF xa)) (1 : Int32))), .unset] [])) _
      refine XS.iload X4.here hx rfl (hb hby at_115) rfl ?_
      show Steps p.tables e below (T4.setTop (mkF m 117 #[.val (.int xa), .val (.int xb), .val (.int xc), .val (.int xd), .val (.int xe), .val (.int xf), .val (.int (lbF xa)), .val (.int (lbF xb)), .val (.int (lbF xc)), .val (.int (lbF xd)), .val (.int (lbF xe)), .val (.int (lbF xf)), .val (.int (cF xa)), .val (.int (cF xb)), .val (.int (cF xe)), .val (.ref b1), .val (.int (eqF (nextR initS (lbF xa)) (1 : Int32))), .unset] [(.int (eqF (nextR initS (lbF xa)) (1 : Int32)))])) _
      refine XS.aload X4.here hx rfl (hb hby at_117) rfl rfl ?_
      show Steps p.tables e below (T4.setTop (mkF m 119 #[.val (.int xa), .val (.int xb), .val (.int xc), .val (.int xd), .val (.int xe), .val (.int xf), .val (.int (lbF xa)), .val (.int (lbF xb)), .val (.int (lbF xc)), .val (.int (lbF xd)), .val (.int (lbF xe)), .val (.int (lbF xf)), .val (.int (cF xa)), .val (.int (cF xb)), .val (.int (cF xe)), .val (.ref b1), .val (.int (eqF (nextR initS (lbF xa)) (1 : Int32))), .unset] [(.ref b1), (.int (eqF (nextR initS (lbF xa)) (1 : Int32)))])) _
      refine XS.iload X4.here hx rfl (hb hby at_119) rfl ?_
      show Steps p.tables e below (T4.setTop (mkF m 121 #[.val (.int xa), .val (.int xb), .val (.int xc), .val (.int xd), .val (.int xe), .val (.int xf), .val (.int (lbF xa)), .val (.int (lbF xb)), .val (.int (lbF xc)), .val (.int (lbF xd)), .val (.int (lbF xe)), .val (.int (lbF xf)), .val (.int (cF xa)), .val (.int (cF xb)), .val (.int (cF xe)), .val (.ref b1), .val (.int (eqF (nextR initS (lbF xa)) (1 : Int32))), .unset] [(.int (lbF xb)), (.ref b1), (.int (eqF (nextR initS (lbF xa)) (1 : Int32)))])) _
      refine st5.trans ?_
      show Steps p.tables e below (T5.setTop (mkF m 124 #[.val (.int xa), .val (.int xb), .val (.int xc), .val (.int xd), .val (.int xe), .val (.int xf), .val (.int (lbF xa)), .val (.int (lbF xb)), .val (.int (lbF xc)), .val (.int (lbF xd)), .val (.int (lbF xe)), .val (.int (lbF xf)), .val (.int (cF xa)), .val (.int (cF xb)), .val (.int (cF xe)), .val (.ref b1), .val (.int (eqF (nextR initS (lbF xa)) (1 : Int32))), .unset] [(.int (nextR (sg1 (lbF xa)) (lbF xb))), (.int (eqF (nextR initS (lbF xa)) (1 : Int32)))])) _
      refine XS.iconst X5.here hx rfl (hb hby at_124) ?_
      show Steps p.tables e below (T5.setTop (mkF m 125 #[.val (.int xa), .val (.int xb), .val (.int xc), .val (.int xd), .val (.int xe), .val (.int xf), .val (.int (lbF xa)), .val (.int (lbF xb)), .val (.int (lbF xc)), .val (.int (lbF xd)), .val (.int (lbF xe)), .val (.int (lbF xf)), .val (.int (cF xa)), .val (.int (cF xb)), .val (.int (cF xe)), .val (.ref b1), .val (.int (eqF (nextR initS (lbF xa)) (1 : Int32))), .unset] [(.int (1 : Int32)), (.int (nextR (sg1 (lbF xa)) (lbF xb))), (.int (eqF (nextR initS (lbF xa)) (1 : Int32)))])) _
      suffices J125 : Steps p.tables e below (T5.setTop (mkF m 133 #[.val (.int xa), .val (.int xb), .val (.int xc), .val (.int xd), .val (.int xe), .val (.int xf), .val (.int (lbF xa)), .val (.int (lbF xb)), .val (.int (lbF xc)), .val (.int (lbF xd)), .val (.int (lbF xe)), .val (.int (lbF xf)), .val (.int (cF xa)), .val (.int (cF xb)), .val (.int (cF xe)), .val (.ref b1), .val (.int (eqF (nextR initS (lbF xa)) (1 : Int32))), .unset] [(.int (eqF (nextR (sg1 (lbF xa)) (lbF xb)) (1 : Int32))), (.int (eqF (nextR initS (lbF xa)) (1 : Int32)))])) target by
        by_cases h125 : (nextR (sg1 (lbF xa)) (lbF xb)) = (1 : Int32)
        · refine XS.icmpNo X5.here hx rfl (hb hby at_125) rfl (teq h125).2 ?_
          show Steps p.tables e below (T5.setTop (mkF m 128 #[.val (.int xa), .val (.int xb), .val (.int xc), .val (.int xd), .val (.int xe), .val (.int xf), .val (.int (lbF xa)), .val (.int (lbF xb)), .val (.int (lbF xc)), .val (.int (lbF xd)), .val (.int (lbF xe)), .val (.int (lbF xf)), .val (.int (cF xa)), .val (.int (cF xb)), .val (.int (cF xe)), .val (.ref b1), .val (.int (eqF (nextR initS (lbF xa)) (1 : Int32))), .unset] [(.int (eqF (nextR initS (lbF xa)) (1 : Int32)))])) _
          refine XS.iconst X5.here hx rfl (hb hby at_128) ?_
          show Steps p.tables e below (T5.setTop (mkF m 129 #[.val (.int xa), .val (.int xb), .val (.int xc), .val (.int xd), .val (.int xe), .val (.int xf), .val (.int (lbF xa)), .val (.int (lbF xb)), .val (.int (lbF xc)), .val (.int (lbF xd)), .val (.int (lbF xe)), .val (.int (lbF xf)), .val (.int (cF xa)), .val (.int (cF xb)), .val (.int (cF xe)), .val (.ref b1), .val (.int (eqF (nextR initS (lbF xa)) (1 : Int32))), .unset] [(.int (1 : Int32)), (.int (eqF (nextR initS (lbF xa)) (1 : Int32)))])) _
          refine XS.goto X5.here hx rfl (pc0 := 129) (pc' := 133) rfl (hb hby at_129) (by decide) (by decide) ?_
          show Steps p.tables e below (T5.setTop (mkF m 133 #[.val (.int xa), .val (.int xb), .val (.int xc), .val (.int xd), .val (.int xe), .val (.int xf), .val (.int (lbF xa)), .val (.int (lbF xb)), .val (.int (lbF xc)), .val (.int (lbF xd)), .val (.int (lbF xe)), .val (.int (lbF xf)), .val (.int (cF xa)), .val (.int (cF xb)), .val (.int (cF xe)), .val (.ref b1), .val (.int (eqF (nextR initS (lbF xa)) (1 : Int32))), .unset] [(.int (1 : Int32)), (.int (eqF (nextR initS (lbF xa)) (1 : Int32)))])) _
          rw [show (eqF (nextR (sg1 (lbF xa)) (lbF xb)) (1 : Int32)) = (1 : Int32) from by rw [eqF, if_pos h125]] at J125
          exact J125
        · refine XS.icmpYes X5.here hx rfl (pc0 := 125) (pc' := 132) rfl (hb hby at_125) rfl (feq h125).2 (by decide) (by decide) ?_
          show Steps p.tables e below (T5.setTop (mkF m 132 #[.val (.int xa), .val (.int xb), .val (.int xc), .val (.int xd), .val (.int xe), .val (.int xf), .val (.int (lbF xa)), .val (.int (lbF xb)), .val (.int (lbF xc)), .val (.int (lbF xd)), .val (.int (lbF xe)), .val (.int (lbF xf)), .val (.int (cF xa)), .val (.int (cF xb)), .val (.int (cF xe)), .val (.ref b1), .val (.int (eqF (nextR initS (lbF xa)) (1 : Int32))), .unset] [(.int (eqF (nextR initS (lbF xa)) (1 : Int32)))])) _
          refine XS.iconst X5.here hx rfl (hb hby at_132) ?_
          show Steps p.tables e below (T5.setTop (mkF m 133 #[.val (.int xa), .val (.int xb), .val (.int xc), .val (.int xd), .val (.int xe), .val (.int xf), .val (.int (lbF xa)), .val (.int (lbF xb)), .val (.int (lbF xc)), .val (.int (lbF xd)), .val (.int (lbF xe)), .val (.int (lbF xf)), .val (.int (cF xa)), .val (.int (cF xb)), .val (.int (cF xe)), .val (.ref b1), .val (.int (eqF (nextR initS (lbF xa)) (1 : Int32))), .unset] [(.int (0 : Int32)), (.int (eqF (nextR initS (lbF xa)) (1 : Int32)))])) _
          rw [show (eqF (nextR (sg1 (lbF xa)) (lbF xb)) (1 : Int32)) = (0 : Int32) from by rw [eqF, if_neg h125]] at J125
          exact J125
      show Steps p.tables e below (T5.setTop (mkF m 133 #[.val (.int xa), .val (.int xb), .val (.int xc), .val (.int xd), .val (.int xe), .val (.int xf), .val (.int (lbF xa)), .val (.int (lbF xb)), .val (.int (lbF xc)), .val (.int (lbF xd)), .val (.int (lbF xe)), .val (.int (lbF xf)), .val (.int (cF xa)), .val (.int (cF xb)), .val (.int (cF xe)), .val (.ref b1), .val (.int (eqF (nextR initS (lbF xa)) (1 : Int32))), .unset] [(.int (eqF (nextR (sg1 (lbF xa)) (lbF xb)) (1 : Int32))), (.int (eqF (nextR initS (lbF xa)) (1 : Int32)))])) _
      refine XS.iand X5.here hx rfl (hb hby at_133) rfl ?_
      show Steps p.tables e below (T5.setTop (mkF m 134 #[.val (.int xa), .val (.int xb), .val (.int xc), .val (.int xd), .val (.int xe), .val (.int xf), .val (.int (lbF xa)), .val (.int (lbF xb)), .val (.int (lbF xc)), .val (.int (lbF xd)), .val (.int (lbF xe)), .val (.int (lbF xf)), .val (.int (cF xa)), .val (.int (cF xb)), .val (.int (cF xe)), .val (.ref b1), .val (.int (eqF (nextR initS (lbF xa)) (1 : Int32))), .unset] [(.int ((eqF (nextR initS (lbF xa)) (1 : Int32)) &&& (eqF (nextR (sg1 (lbF xa)) (lbF xb)) (1 : Int32))))])) _
      refine XS.istore X5.here hx rfl (hb hby at_134) rfl (l' := #[.val (.int xa), .val (.int xb), .val (.int xc), .val (.int xd), .val (.int xe), .val (.int xf), .val (.int (lbF xa)), .val (.int (lbF xb)), .val (.int (lbF xc)), .val (.int (lbF xd)), .val (.int (lbF xe)), .val (.int (lbF xf)), .val (.int (cF xa)), .val (.int (cF xb)), .val (.int (cF xe)), .val (.ref b1), .val (.int ((eqF (nextR initS (lbF xa)) (1 : Int32)) &&& (eqF (nextR (sg1 (lbF xa)) (lbF xb)) (1 : Int32)))), .unset]) rfl ?_
      exact kt
  obtain ⟨T8, L8, X8, N8, hS8, st8⟩ : ∃ (T' : State) (L' : List Loc), Stand p l e room_1 s m #[(.int xa), (.int xb), (.int xc), (.int xd), (.int xe), (.int xf)] below meth c T' L' 9 95 ∧ Fr n0 L' ∧ SPs Z n0 T'.heap b1 (sg2 (lbF xa) (cF xa) (lbF xb) (cF xb) (lbF xc)) ∧ ∀ target, Steps p.tables e below (T'.setTop (mkF m 178 #[.val (.int xa), .val (.int xb), .val (.int xc), .val (.int xd), .val (.int xe), .val (.int xf), .val (.int (lbF xa)), .val (.int (lbF xb)), .val (.int (lbF xc)), .val (.int (lbF xd)), .val (.int (lbF xe)), .val (.int (lbF xf)), .val (.int (cF xa)), .val (.int (cF xb)), .val (.int (cF xe)), .val (.ref b1), .val (.int (ok1 (lbF xa) (cF xa) (lbF xb) (cF xb) (lbF xc))), .unset] [])) target → Steps p.tables e below (T6.setTop (mkF m 136 #[.val (.int xa), .val (.int xb), .val (.int xc), .val (.int xd), .val (.int xe), .val (.int xf), .val (.int (lbF xa)), .val (.int (lbF xb)), .val (.int (lbF xc)), .val (.int (lbF xd)), .val (.int (lbF xe)), .val (.int (lbF xf)), .val (.int (cF xa)), .val (.int (cF xb)), .val (.int (cF xe)), .val (.ref b1), .val (.int (cndR (cF xa) (eqF (nextR initS (lbF xa)) (1 : Int32)) (sg1 (lbF xa)) (lbF xb) (1 : Int32))), .unset] [])) target := by
    by_cases hz : (cF xb) = (0 : Int32)
    · refine ⟨T6, _, X6.more (by decide) (by decide), N6, (by rw [show (sg2 (lbF xa) (cF xa) (lbF xb) (cF xb) (lbF xc)) = (cndS (cF xa) (sg1 (lbF xa)) (lbF xb)) from if_pos hz]; exact hS6), fun target kt => ?_⟩
      rw [show (ok1 (lbF xa) (cF xa) (lbF xb) (cF xb) (lbF xc)) = (cndR (cF xa) (eqF (nextR initS (lbF xa)) (1 : Int32)) (sg1 (lbF xa)) (lbF xb) (1 : Int32)) from if_pos hz] at kt
      show Steps p.tables e below (T6.setTop (mkF m 136 #[.val (.int xa), .val (.int xb), .val (.int xc), .val (.int xd), .val (.int xe), .val (.int xf), .val (.int (lbF xa)), .val (.int (lbF xb)), .val (.int (lbF xc)), .val (.int (lbF xd)), .val (.int (lbF xe)), .val (.int (lbF xf)), .val (.int (cF xa)), .val (.int (cF xb)), .val (.int (cF xe)), .val (.ref b1), .val (.int (cndR (cF xa) (eqF (nextR initS (lbF xa)) (1 : Int32)) (sg1 (lbF xa)) (lbF xb) (1 : Int32))), .unset] [])) _
      refine XS.iload X6.here hx rfl (hb hby at_136) rfl ?_
      show Steps p.tables e below (T6.setTop (mkF m 138 #[.val (.int xa), .val (.int xb), .val (.int xc), .val (.int xd), .val (.int xe), .val (.int xf), .val (.int (lbF xa)), .val (.int (lbF xb)), .val (.int (lbF xc)), .val (.int (lbF xd)), .val (.int (lbF xe)), .val (.int (lbF xf)), .val (.int (cF xa)), .val (.int (cF xb)), .val (.int (cF xe)), .val (.ref b1), .val (.int (cndR (cF xa) (eqF (nextR initS (lbF xa)) (1 : Int32)) (sg1 (lbF xa)) (lbF xb) (1 : Int32))), .unset] [(.int (cF xb))])) _
      refine XS.ifYes X6.here hx rfl (pc0 := 138) (pc' := 178) rfl (hb hby at_138) rfl ((if0 _ _).trans (teq hz).1) (by decide) (by decide) ?_
      exact kt
    · obtain ⟨cq7, kq7, q7a, q7b, q7c⟩ := isOf hZ rfl (hS6.exa)
      obtain ⟨_, _, ⟨T7, L7, k7, n7⟩, -, X7, ⟨Lc7, hQ7, l7, y7, z7⟩, st7⟩ := X6.virtualBack hx (y := (⟨"com/example/orsay/orsay/SiblingPositions", "next", "(I)I"⟩ : MethodName)) (z := (⟨"com/example/orsay/orsay/SiblingPositions", "next", "(I)I"⟩ : MethodName)) hown (mvT hZ (hw _ (List.mem_of_getElem? (i := 20) rfl))) (mvT hZ (hw _ (List.mem_of_getElem? (i := 21) rfl))) (notFace_of_selects (args := #[]) (mvT hZ (hw _ (List.mem_of_getElem? (i := 23) rfl)))) (mvT hZ (hw _ (List.mem_of_getElem? (i := 23) rfl))) (mvT hZ (hw _ (List.mem_of_getElem? (i := 22) rfl))) (by decide) (backOf (W := 1) (rm_nextw l Z a0 hw [] b1 (lbF xc) (cndS (cF xa) (sg1 (lbF xa)) (lbF xb)) T6.heap n0 hS6.size hS6 (cnd_pos hz r4)) hZ (hw _ (List.mem_of_getElem? (i := 24) rfl)) (hw _ (List.mem_of_getElem? (i := 2) rfl)) (by decide) (by decide)) q7a q7c (g := (mkF m 147 #[.val (.int xa), .val (.int xb), .val (.int xc), .val (.int xd), .val (.int xe), .val (.int xf), .val (.int (lbF xa)), .val (.int (lbF xb)), .val (.int (lbF xc)), .val (.int (lbF xd)), .val (.int (lbF xe)), .val (.int (lbF xf)), .val (.int (cF xa)), .val (.int (cF xb)), .val (.int (cF xe)), .val (.ref b1), .val (.int (cndR (cF xa) (eqF (nextR initS (lbF xa)) (1 : Int32)) (sg1 (lbF xa)) (lbF xb) (1 : Int32))), .unset] [(.int (lbF xc)), (.ref b1), (.int (cndR (cF xa) (eqF (nextR initS (lbF xa)) (1 : Int32)) (sg1 (lbF xa)) (lbF xb) (1 : Int32)))])) rfl (by rw [hml]; rfl) (Steps.refl _) (argsL := [(.int (lbF xc))]) (rest := [(.int (cndR (cF xa) (eqF (nextR initS (lbF xa)) (1 : Int32)) (sg1 (lbF xa)) (lbF xb) (1 : Int32)))]) (lenOf pd_6 rfl) rfl (by show 2 * 0 + _ ≤ _; exact Nat.le_of_eq rfl) (hb hby at_147) (fun _ _ => ⟨rfl, rfl, (by decide : 8 + 1 ≤ _), (by decide : 87 + 8 ≤ _)⟩)
      dsimp only [Pt.U, Pt.locs, Pt.cells, Pt.slots] at X7 l7 y7 z7 st7 hQ7
      subst l7 y7 z7
      obtain ⟨rfl, N7q, hq7⟩ := hQ7
      have N7 := Fr.app N6 N7q
      have hS7 : SPs Z n0 T7.heap b1 (nextS (cndS (cF xa) (sg1 (lbF xa)) (lbF xb)) (lbF xc)) := hq7
      refine ⟨T7, _, X7.more (by decide) (by decide), N7, (by rw [show (sg2 (lbF xa) (cF xa) (lbF xb) (cF xb) (lbF xc)) = (nextS (cndS (cF xa) (sg1 (lbF xa)) (lbF xb)) (lbF xc)) from if_neg hz]; exact hS7), fun target kt => ?_⟩
      rw [show (ok1 (lbF xa) (cF xa) (lbF xb) (cF xb) (lbF xc)) = ((cndR (cF xa) (eqF (nextR initS (lbF xa)) (1 : Int32)) (sg1 (lbF xa)) (lbF xb) (1 : Int32)) &&& (eqF (nextR (cndS (cF xa) (sg1 (lbF xa)) (lbF xb)) (lbF xc)) (w2F (cF xa) (lbF xb) (lbF xc)))) from if_neg hz] at kt
      show Steps p.tables e below (T6.setTop (mkF m 136 #[.val (.int xa), .val (.int xb), .val (.int xc), .val (.int xd), .val (.int xe), .val (.int xf), .val (.int (lbF xa)), .val (.int (lbF xb)), .val (.int (lbF xc)), .val (.int (lbF xd)), .val (.int (lbF xe)), .val (.int (lbF xf)), .val (.int (cF xa)), .val (.int (cF xb)), .val (.int (cF xe)), .val (.ref b1), .val (.int (cndR (cF xa) (eqF (nextR initS (lbF xa)) (1 : Int32)) (sg1 (lbF xa)) (lbF xb) (1 : Int32))), .unset] [])) _
      refine XS.iload X6.here hx rfl (hb hby at_136) rfl ?_
      show Steps p.tables e below (T6.setTop (mkF m 138 #[.val (.int xa), .val (.int xb), .val (.int xc), .val (.int xd), .val (.int xe), .val (.int xf), .val (.int (lbF xa)), .val (.int (lbF xb)), .val (.int (lbF xc)), .val (.int (lbF xd)), .val (.int (lbF xe)), .val (.int (lbF xf)), .val (.int (cF xa)), .val (.int (cF xb)), .val (.int (cF xe)), .val (.ref b1), .val (.int (cndR (cF xa) (eqF (nextR initS (lbF xa)) (1 : Int32)) (sg1 (lbF xa)) (lbF xb) (1 : Int32))), .unset] [(.int (cF xb))])) _
      refine XS.ifNo X6.here hx rfl (hb hby at_138) rfl ((if0 _ _).trans (feq hz).1) ?_
      show Steps p.tables e below (T6.setTop (mkF m 141 #[.val (.int xa), .val (.int xb), .val (.int xc), .val (.int xd), .val (.int xe), .val (.int xf), .val (.int (lbF xa)), .val (.int (lbF xb)), .val (.int (lbF xc)), .val (.int (lbF xd)), .val (.int (lbF xe)), .val (.int (lbF xf)), .val (.int (cF xa)), .val (.int (cF xb)), .val (.int (cF xe)), .val (.ref b1), .val (.int (cndR (cF xa) (eqF (nextR initS (lbF xa)) (1 : Int32)) (sg1 (lbF xa)) (lbF xb) (1 : Int32))), .unset] [])) _
      refine XS.iload X6.here hx rfl (hb hby at_141) rfl ?_
      show Steps p.tables e below (T6.setTop (mkF m 143 #[.val (.int xa), .val (.int xb), .val (.int xc), .val (.int xd), .val (.int xe), .val (.int xf), .val (.int (lbF xa)), .val (.int (lbF xb)), .val (.int (lbF xc)), .val (.int (lbF xd)), .val (.int (lbF xe)), .val (.int (lbF xf)), .val (.int (cF xa)), .val (.int (cF xb)), .val (.int (cF xe)), .val (.ref b1), .val (.int (cndR (cF xa) (eqF (nextR initS (lbF xa)) (1 : Int32)) (sg1 (lbF xa)) (lbF xb) (1 : Int32))), .unset] [(.int (cndR (cF xa) (eqF (nextR initS (lbF xa)) (1 : Int32)) (sg1 (lbF xa)) (lbF xb) (1 : Int32)))])) _
      refine XS.aload X6.here hx rfl (hb hby at_143) rfl rfl ?_
      show Steps p.tables e below (T6.setTop (mkF m 145 #[.val (.int xa), .val (.int xb), .val (.int xc), .val (.int xd), .val (.int xe), .val (.int xf), .val (.int (lbF xa)), .val (.int (lbF xb)), .val (.int (lbF xc)), .val (.int (lbF xd)), .val (.int (lbF xe)), .val (.int (lbF xf)), .val (.int (cF xa)), .val (.int (cF xb)), .val (.int (cF xe)), .val (.ref b1), .val (.int (cndR (cF xa) (eqF (nextR initS (lbF xa)) (1 : Int32)) (sg1 (lbF xa)) (lbF xb) (1 : Int32))), .unset] [(.ref b1), (.int (cndR (cF xa) (eqF (nextR initS (lbF xa)) (1 : Int32)) (sg1 (lbF xa)) (lbF xb) (1 : Int32)))])) _
      refine XS.iload X6.here hx rfl (hb hby at_145) rfl ?_
      show Steps p.tables e below (T6.setTop (mkF m 147 #[.val (.int xa), .val (.int xb), .val (.int xc), .val (.int xd), .val (.int xe), .val (.int xf), .val (.int (lbF xa)), .val (.int (lbF xb)), .val (.int (lbF xc)), .val (.int (lbF xd)), .val (.int (lbF xe)), .val (.int (lbF xf)), .val (.int (cF xa)), .val (.int (cF xb)), .val (.int (cF xe)), .val (.ref b1), .val (.int (cndR (cF xa) (eqF (nextR initS (lbF xa)) (1 : Int32)) (sg1 (lbF xa)) (lbF xb) (1 : Int32))), .unset] [(.int (lbF xc)), (.ref b1), (.int (cndR (cF xa) (eqF (nextR initS (lbF xa)) (1 : Int32)) (sg1 (lbF xa)) (lbF xb) (1 : Int32)))])) _
      refine st7.trans ?_
      show Steps p.tables e below (T7.setTop (mkF m 150 #[.val (.int xa), .val (.int xb), .val (.int xc), .val (.int xd), .val (.int xe), .val (.int xf), .val (.int (lbF xa)), .val (.int (lbF xb)), .val (.int (lbF xc)), .val (.int (lbF xd)), .val (.int (lbF xe)), .val (.int (lbF xf)), .val (.int (cF xa)), .val (.int (cF xb)), .val (.int (cF xe)), .val (.ref b1), .val (.int (cndR (cF xa) (eqF (nextR initS (lbF xa)) (1 : Int32)) (sg1 (lbF xa)) (lbF xb) (1 : Int32))), .unset] [(.int (nextR (cndS (cF xa) (sg1 (lbF xa)) (lbF xb)) (lbF xc))), (.int (cndR (cF xa) (eqF (nextR initS (lbF xa)) (1 : Int32)) (sg1 (lbF xa)) (lbF xb) (1 : Int32)))])) _
      refine XS.iload X7.here hx rfl (hb hby at_150) rfl ?_
      show Steps p.tables e below (T7.setTop (mkF m 152 #[.val (.int xa), .val (.int xb), .val (.int xc), .val (.int xd), .val (.int xe), .val (.int xf), .val (.int (lbF xa)), .val (.int (lbF xb)), .val (.int (lbF xc)), .val (.int (lbF xd)), .val (.int (lbF xe)), .val (.int (lbF xf)), .val (.int (cF xa)), .val (.int (cF xb)), .val (.int (cF xe)), .val (.ref b1), .val (.int (cndR (cF xa) (eqF (nextR initS (lbF xa)) (1 : Int32)) (sg1 (lbF xa)) (lbF xb) (1 : Int32))), .unset] [(.int (cF xa)), (.int (nextR (cndS (cF xa) (sg1 (lbF xa)) (lbF xb)) (lbF xc))), (.int (cndR (cF xa) (eqF (nextR initS (lbF xa)) (1 : Int32)) (sg1 (lbF xa)) (lbF xb) (1 : Int32)))])) _
      suffices J152 : Steps p.tables e below (T7.setTop (mkF m 167 #[.val (.int xa), .val (.int xb), .val (.int xc), .val (.int xd), .val (.int xe), .val (.int xf), .val (.int (lbF xa)), .val (.int (lbF xb)), .val (.int (lbF xc)), .val (.int (lbF xd)), .val (.int (lbF xe)), .val (.int (lbF xf)), .val (.int (cF xa)), .val (.int (cF xb)), .val (.int (cF xe)), .val (.ref b1), .val (.int (cndR (cF xa) (eqF (nextR initS (lbF xa)) (1 : Int32)) (sg1 (lbF xa)) (lbF xb) (1 : Int32))), .unset] [(.int (w2F (cF xa) (lbF xb) (lbF xc))), (.int (nextR (cndS (cF xa) (sg1 (lbF xa)) (lbF xb)) (lbF xc))), (.int (cndR (cF xa) (eqF (nextR initS (lbF xa)) (1 : Int32)) (sg1 (lbF xa)) (lbF xb) (1 : Int32)))])) target by
        by_cases h152 : (cF xa) = (0 : Int32)
        · refine XS.ifYes X7.here hx rfl (pc0 := 152) (pc' := 166) rfl (hb hby at_152) rfl ((if0 _ _).trans (teq h152).1) (by decide) (by decide) ?_
          show Steps p.tables e below (T7.setTop (mkF m 166 #[.val (.int xa), .val (.int xb), .val (.int xc), .val (.int xd), .val (.int xe), .val (.int xf), .val (.int (lbF xa)), .val (.int (lbF xb)), .val (.int (lbF xc)), .val (.int (lbF xd)), .val (.int (lbF xe)), .val (.int (lbF xf)), .val (.int (cF xa)), .val (.int (cF xb)), .val (.int (cF xe)), .val (.ref b1), .val (.int (cndR (cF xa) (eqF (nextR initS (lbF xa)) (1 : Int32)) (sg1 (lbF xa)) (lbF xb) (1 : Int32))), .unset] [(.int (nextR (cndS (cF xa) (sg1 (lbF xa)) (lbF xb)) (lbF xc))), (.int (cndR (cF xa) (eqF (nextR initS (lbF xa)) (1 : Int32)) (sg1 (lbF xa)) (lbF xb) (1 : Int32)))])) _
          refine XS.iconst X7.here hx rfl (hb hby at_166) ?_
          show Steps p.tables e below (T7.setTop (mkF m 167 #[.val (.int xa), .val (.int xb), .val (.int xc), .val (.int xd), .val (.int xe), .val (.int xf), .val (.int (lbF xa)), .val (.int (lbF xb)), .val (.int (lbF xc)), .val (.int (lbF xd)), .val (.int (lbF xe)), .val (.int (lbF xf)), .val (.int (cF xa)), .val (.int (cF xb)), .val (.int (cF xe)), .val (.ref b1), .val (.int (cndR (cF xa) (eqF (nextR initS (lbF xa)) (1 : Int32)) (sg1 (lbF xa)) (lbF xb) (1 : Int32))), .unset] [(.int (1 : Int32)), (.int (nextR (cndS (cF xa) (sg1 (lbF xa)) (lbF xb)) (lbF xc))), (.int (cndR (cF xa) (eqF (nextR initS (lbF xa)) (1 : Int32)) (sg1 (lbF xa)) (lbF xb) (1 : Int32)))])) _
          rw [show (w2F (cF xa) (lbF xb) (lbF xc)) = (1 : Int32) from by rw [w2F, if_pos h152]] at J152
          exact J152
        · refine XS.ifNo X7.here hx rfl (hb hby at_152) rfl ((if0 _ _).trans (feq h152).1) ?_
          show Steps p.tables e below (T7.setTop (mkF m 155 #[.val (.int xa), .val (.int xb), .val (.int xc), .val (.int xd), .val (.int xe), .val (.int xf), .val (.int (lbF xa)), .val (.int (lbF xb)), .val (.int (lbF xc)), .val (.int (lbF xd)), .val (.int (lbF xe)), .val (.int (lbF xf)), .val (.int (cF xa)), .val (.int (cF xb)), .val (.int (cF xe)), .val (.ref b1), .val (.int (cndR (cF xa) (eqF (nextR initS (lbF xa)) (1 : Int32)) (sg1 (lbF xa)) (lbF xb) (1 : Int32))), .unset] [(.int (nextR (cndS (cF xa) (sg1 (lbF xa)) (lbF xb)) (lbF xc))), (.int (cndR (cF xa) (eqF (nextR initS (lbF xa)) (1 : Int32)) (sg1 (lbF xa)) (lbF xb) (1 : Int32)))])) _
          refine XS.iload X7.here hx rfl (hb hby at_155) rfl ?_
          show Steps p.tables e below (T7.setTop (mkF m 157 #[.val (.int xa), .val (.int xb), .val (.int xc), .val (.int xd), .val (.int xe), .val (.int xf), .val (.int (lbF xa)), .val (.int (lbF xb)), .val (.int (lbF xc)), .val (.int (lbF xd)), .val (.int (lbF xe)), .val (.int (lbF xf)), .val (.int (cF xa)), .val (.int (cF xb)), .val (.int (cF xe)), .val (.ref b1), .val (.int (cndR (cF xa) (eqF (nextR initS (lbF xa)) (1 : Int32)) (sg1 (lbF xa)) (lbF xb) (1 : Int32))), .unset] [(.int (lbF xc)), (.int (nextR (cndS (cF xa) (sg1 (lbF xa)) (lbF xb)) (lbF xc))), (.int (cndR (cF xa) (eqF (nextR initS (lbF xa)) (1 : Int32)) (sg1 (lbF xa)) (lbF xb) (1 : Int32)))])) _
          refine XS.iload X7.here hx rfl (hb hby at_157) rfl ?_
          show Steps p.tables e below (T7.setTop (mkF m 159 #[.val (.int xa), .val (.int xb), .val (.int xc), .val (.int xd), .val (.int xe), .val (.int xf), .val (.int (lbF xa)), .val (.int (lbF xb)), .val (.int (lbF xc)), .val (.int (lbF xd)), .val (.int (lbF xe)), .val (.int (lbF xf)), .val (.int (cF xa)), .val (.int (cF xb)), .val (.int (cF xe)), .val (.ref b1), .val (.int (cndR (cF xa) (eqF (nextR initS (lbF xa)) (1 : Int32)) (sg1 (lbF xa)) (lbF xb) (1 : Int32))), .unset] [(.int (lbF xb)), (.int (lbF xc)), (.int (nextR (cndS (cF xa) (sg1 (lbF xa)) (lbF xb)) (lbF xc))), (.int (cndR (cF xa) (eqF (nextR initS (lbF xa)) (1 : Int32)) (sg1 (lbF xa)) (lbF xb) (1 : Int32)))])) _
          by_cases h159 : (lbF xc) = (lbF xb)
          · refine XS.icmpNo X7.here hx rfl (hb hby at_159) rfl (teq h159).2 ?_
            show Steps p.tables e below (T7.setTop (mkF m 162 #[.val (.int xa), .val (.int xb), .val (.int xc), .val (.int xd), .val (.int xe), .val (.int xf), .val (.int (lbF xa)), .val (.int (lbF xb)), .val (.int (lbF xc)), .val (.int (lbF xd)), .val (.int (lbF xe)), .val (.int (lbF xf)), .val (.int (cF xa)), .val (.int (cF xb)), .val (.int (cF xe)), .val (.ref b1), .val (.int (cndR (cF xa) (eqF (nextR initS (lbF xa)) (1 : Int32)) (sg1 (lbF xa)) (lbF xb) (1 : Int32))), .unset] [(.int (nextR (cndS (cF xa) (sg1 (lbF xa)) (lbF xb)) (lbF xc))), (.int (cndR (cF xa) (eqF (nextR initS (lbF xa)) (1 : Int32)) (sg1 (lbF xa)) (lbF xb) (1 : Int32)))])) _
            refine XS.iconst X7.here hx rfl (hb hby at_162) ?_
            show Steps p.tables e below (T7.setTop (mkF m 163 #[.val (.int xa), .val (.int xb), .val (.int xc), .val (.int xd), .val (.int xe), .val (.int xf), .val (.int (lbF xa)), .val (.int (lbF xb)), .val (.int (lbF xc)), .val (.int (lbF xd)), .val (.int (lbF xe)), .val (.int (lbF xf)), .val (.int (cF xa)), .val (.int (cF xb)), .val (.int (cF xe)), .val (.ref b1), .val (.int (cndR (cF xa) (eqF (nextR initS (lbF xa)) (1 : Int32)) (sg1 (lbF xa)) (lbF xb) (1 : Int32))), .unset] [(.int (2 : Int32)), (.int (nextR (cndS (cF xa) (sg1 (lbF xa)) (lbF xb)) (lbF xc))), (.int (cndR (cF xa) (eqF (nextR initS (lbF xa)) (1 : Int32)) (sg1 (lbF xa)) (lbF xb) (1 : Int32)))])) _
            refine XS.goto X7.here hx rfl (pc0 := 163) (pc' := 167) rfl (hb hby at_163) (by decide) (by decide) ?_
            show Steps p.tables e below (T7.setTop (mkF m 167 #[.val (.int xa), .val (.int xb), .val (.int xc), .val (.int xd), .val (.int xe), .val (.int xf), .val (.int (lbF xa)), .val (.int (lbF xb)), .val (.int (lbF xc)), .val (.int (lbF xd)), .val (.int (lbF xe)), .val (.int (lbF xf)), .val (.int (cF xa)), .val (.int (cF xb)), .val (.int (cF xe)), .val (.ref b1), .val (.int (cndR (cF xa) (eqF (nextR initS (lbF xa)) (1 : Int32)) (sg1 (lbF xa)) (lbF xb) (1 : Int32))), .unset] [(.int (2 : Int32)), (.int (nextR (cndS (cF xa) (sg1 (lbF xa)) (lbF xb)) (lbF xc))), (.int (cndR (cF xa) (eqF (nextR initS (lbF xa)) (1 : Int32)) (sg1 (lbF xa)) (lbF xb) (1 : Int32)))])) _
            rw [show (w2F (cF xa) (lbF xb) (lbF xc)) = (2 : Int32) from by rw [w2F, if_neg h152, if_pos h159]] at J152
            exact J152
          · refine XS.icmpYes X7.here hx rfl (pc0 := 159) (pc' := 166) rfl (hb hby at_159) rfl (feq h159).2 (by decide) (by decide) ?_
            show Steps p.tables e below (T7.setTop (mkF m 166 #[.val (.int xa), .val (.int xb), .val (.int xc), .val (.int xd), .val (.int xe), .val (.int xf), .val (.int (lbF xa)), .val (.int (lbF xb)), .val (.int (lbF xc)), .val (.int (lbF xd)), .val (.int (lbF xe)), .val (.int (lbF xf)), .val (.int (cF xa)), .val (.int (cF xb)), .val (.int (cF xe)), .val (.ref b1), .val (.int (cndR (cF xa) (eqF (nextR initS (lbF xa)) (1 : Int32)) (sg1 (lbF xa)) (lbF xb) (1 : Int32))), .unset] [(.int (nextR (cndS (cF xa) (sg1 (lbF xa)) (lbF xb)) (lbF xc))), (.int (cndR (cF xa) (eqF (nextR initS (lbF xa)) (1 : Int32)) (sg1 (lbF xa)) (lbF xb) (1 : Int32)))])) _
            refine XS.iconst X7.here hx rfl (hb hby at_166) ?_
            show Steps p.tables e below (T7.setTop (mkF m 167 #[.val (.int xa), .val (.int xb), .val (.int xc), .val (.int xd), .val (.int xe), .val (.int xf), .val (.int (lbF xa)), .val (.int (lbF xb)), .val (.int (lbF xc)), .val (.int (lbF xd)), .val (.int (lbF xe)), .val (.int (lbF xf)), .val (.int (cF xa)), .val (.int (cF xb)), .val (.int (cF xe)), .val (.ref b1), .val (.int (cndR (cF xa) (eqF (nextR initS (lbF xa)) (1 : Int32)) (sg1 (lbF xa)) (lbF xb) (1 : Int32))), .unset] [(.int (1 : Int32)), (.int (nextR (cndS (cF xa) (sg1 (lbF xa)) (lbF xb)) (lbF xc))), (.int (cndR (cF xa) (eqF (nextR initS (lbF xa)) (1 : Int32)) (sg1 (lbF xa)) (lbF xb) (1 : Int32)))])) _
            rw [show (w2F (cF xa) (lbF xb) (lbF xc)) = (1 : Int32) from by rw [w2F, if_neg h152, if_neg h159]] at J152
            exact J152
      show Steps p.tables e below (T7.setTop (mkF m 167 #[.val (.int xa), .val (.int xb), .val (.int xc), .val (.int xd), .val (.int xe), .val (.int xf), .val (.int (lbF xa)), .val (.int (lbF xb)), .val (.int (lbF xc)), .val (.int (lbF xd)), .val (.int (lbF xe)), .val (.int (lbF xf)), .val (.int (cF xa)), .val (.int (cF xb)), .val (.int (cF xe)), .val (.ref b1), .val (.int (cndR (cF xa) (eqF (nextR initS (lbF xa)) (1 : Int32)) (sg1 (lbF xa)) (lbF xb) (1 : Int32))), .unset] [(.int (w2F (cF xa) (lbF xb) (lbF xc))), (.int (nextR (cndS (cF xa) (sg1 (lbF xa)) (lbF xb)) (lbF xc))), (.int (cndR (cF xa) (eqF (nextR initS (lbF xa)) (1 : Int32)) (sg1 (lbF xa)) (lbF xb) (1 : Int32)))])) _
      suffices J167 : Steps p.tables e below (T7.setTop (mkF m 175 #[.val (.int xa), .val (.int xb), .val (.int xc), .val (.int xd), .val (.int xe), .val (.int xf), .val (.int (lbF xa)), .val (.int (lbF xb)), .val (.int (lbF xc)), .val (.int (lbF xd)), .val (.int (lbF xe)), .val (.int (lbF xf)), .val (.int (cF xa)), .val (.int (cF xb)), .val (.int (cF xe)), .val (.ref b1), .val (.int (cndR (cF xa) (eqF (nextR initS (lbF xa)) (1 : Int32)) (sg1 (lbF xa)) (lbF xb) (1 : Int32))), .unset] [(.int (eqF (nextR (cndS (cF xa) (sg1 (lbF xa)) (lbF xb)) (lbF xc)) (w2F (cF xa) (lbF xb) (lbF xc)))), (.int (cndR (cF xa) (eqF (nextR initS (lbF xa)) (1 : Int32)) (sg1 (lbF xa)) (lbF xb) (1 : Int32)))])) target by
        by_cases h167 : (nextR (cndS (cF xa) (sg1 (lbF xa)) (lbF xb)) (lbF xc)) = (w2F (cF xa) (lbF xb) (lbF xc))
        · refine XS.icmpNo X7.here hx rfl (hb hby at_167) rfl (teq h167).2 ?_
          show Steps p.tables e below (T7.setTop (mkF m 170 #[.val (.int xa), .val (.int xb), .val (.int xc), .val (.int xd), .val (.int xe), .val (.int xf), .val (.int (lbF xa)), .val (.int (lbF xb)), .val (.int (lbF xc)), .val (.int (lbF xd)), .val (.int (lbF xe)), .val (.int (lbF xf)), .val (.int (cF xa)), .val (.int (cF xb)), .val (.int (cF xe)), .val (.ref b1), .val (.int (cndR (cF xa) (eqF (nextR initS (lbF xa)) (1 : Int32)) (sg1 (lbF xa)) (lbF xb) (1 : Int32))), .unset] [(.int (cndR (cF xa) (eqF (nextR initS (lbF xa)) (1 : Int32)) (sg1 (lbF xa)) (lbF xb) (1 : Int32)))])) _
          refine XS.iconst X7.here hx rfl (hb hby at_170) ?_
          show Steps p.tables e below (T7.setTop (mkF m 171 #[.val (.int xa), .val (.int xb), .val (.int xc), .val (.int xd), .val (.int xe), .val (.int xf), .val (.int (lbF xa)), .val (.int (lbF xb)), .val (.int (lbF xc)), .val (.int (lbF xd)), .val (.int (lbF xe)), .val (.int (lbF xf)), .val (.int (cF xa)), .val (.int (cF xb)), .val (.int (cF xe)), .val (.ref b1), .val (.int (cndR (cF xa) (eqF (nextR initS (lbF xa)) (1 : Int32)) (sg1 (lbF xa)) (lbF xb) (1 : Int32))), .unset] [(.int (1 : Int32)), (.int (cndR (cF xa) (eqF (nextR initS (lbF xa)) (1 : Int32)) (sg1 (lbF xa)) (lbF xb) (1 : Int32)))])) _
          refine XS.goto X7.here hx rfl (pc0 := 171) (pc' := 175) rfl (hb hby at_171) (by decide) (by decide) ?_
          show Steps p.tables e below (T7.setTop (mkF m 175 #[.val (.int xa), .val (.int xb), .val (.int xc), .val (.int xd), .val (.int xe), .val (.int xf), .val (.int (lbF xa)), .val (.int (lbF xb)), .val (.int (lbF xc)), .val (.int (lbF xd)), .val (.int (lbF xe)), .val (.int (lbF xf)), .val (.int (cF xa)), .val (.int (cF xb)), .val (.int (cF xe)), .val (.ref b1), .val (.int (cndR (cF xa) (eqF (nextR initS (lbF xa)) (1 : Int32)) (sg1 (lbF xa)) (lbF xb) (1 : Int32))), .unset] [(.int (1 : Int32)), (.int (cndR (cF xa) (eqF (nextR initS (lbF xa)) (1 : Int32)) (sg1 (lbF xa)) (lbF xb) (1 : Int32)))])) _
          rw [show (eqF (nextR (cndS (cF xa) (sg1 (lbF xa)) (lbF xb)) (lbF xc)) (w2F (cF xa) (lbF xb) (lbF xc))) = (1 : Int32) from by rw [eqF, if_pos h167]] at J167
          exact J167
        · refine XS.icmpYes X7.here hx rfl (pc0 := 167) (pc' := 174) rfl (hb hby at_167) rfl (feq h167).2 (by decide) (by decide) ?_
          show Steps p.tables e below (T7.setTop (mkF m 174 #[.val (.int xa), .val (.int xb), .val (.int xc), .val (.int xd), .val (.int xe), .val (.int xf), .val (.int (lbF xa)), .val (.int (lbF xb)), .val (.int (lbF xc)), .val (.int (lbF xd)), .val (.int (lbF xe)), .val (.int (lbF xf)), .val (.int (cF xa)), .val (.int (cF xb)), .val (.int (cF xe)), .val (.ref b1), .val (.int (cndR (cF xa) (eqF (nextR initS (lbF xa)) (1 : Int32)) (sg1 (lbF xa)) (lbF xb) (1 : Int32))), .unset] [(.int (cndR (cF xa) (eqF (nextR initS (lbF xa)) (1 : Int32)) (sg1 (lbF xa)) (lbF xb) (1 : Int32)))])) _
          refine XS.iconst X7.here hx rfl (hb hby at_174) ?_
          show Steps p.tables e below (T7.setTop (mkF m 175 #[.val (.int xa), .val (.int xb), .val (.int xc), .val (.int xd), .val (.int xe), .val (.int xf), .val (.int (lbF xa)), .val (.int (lbF xb)), .val (.int (lbF xc)), .val (.int (lbF xd)), .val (.int (lbF xe)), .val (.int (lbF xf)), .val (.int (cF xa)), .val (.int (cF xb)), .val (.int (cF xe)), .val (.ref b1), .val (.int (cndR (cF xa) (eqF (nextR initS (lbF xa)) (1 : Int32)) (sg1 (lbF xa)) (lbF xb) (1 : Int32))), .unset] [(.int (0 : Int32)), (.int (cndR (cF xa) (eqF (nextR initS (lbF xa)) (1 : Int32)) (sg1 (lbF xa)) (lbF xb) (1 : Int32)))])) _
          rw [show (eqF (nextR (cndS (cF xa) (sg1 (lbF xa)) (lbF xb)) (lbF xc)) (w2F (cF xa) (lbF xb) (lbF xc))) = (0 : Int32) from by rw [eqF, if_neg h167]] at J167
          exact J167
      show Steps p.tables e below (T7.setTop (mkF m 175 #[.val (.int xa), .val (.int xb), .val (.int xc), .val (.int xd), .val (.int xe), .val (.int xf), .val (.int (lbF xa)), .val (.int (lbF xb)), .val (.int (lbF xc)), .val (.int (lbF xd)), .val (.int (lbF xe)), .val (.int (lbF xf)), .val (.int (cF xa)), .val (.int (cF xb)), .val (.int (cF xe)), .val (.ref b1), .val (.int (cndR (cF xa) (eqF (nextR initS (lbF xa)) (1 : Int32)) (sg1 (lbF xa)) (lbF xb) (1 : Int32))), .unset] [(.int (eqF (nextR (cndS (cF xa) (sg1 (lbF xa)) (lbF xb)) (lbF xc)) (w2F (cF xa) (lbF xb) (lbF xc)))), (.int (cndR (cF xa) (eqF (nextR initS (lbF xa)) (1 : Int32)) (sg1 (lbF xa)) (lbF xb) (1 : Int32)))])) _
      refine XS.iand X7.here hx rfl (hb hby at_175) rfl ?_
      show Steps p.tables e below (T7.setTop (mkF m 176 #[.val (.int xa), .val (.int xb), .val (.int xc), .val (.int xd), .val (.int xe), .val (.int xf), .val (.int (lbF xa)), .val (.int (lbF xb)), .val (.int (lbF xc)), .val (.int (lbF xd)), .val (.int (lbF xe)), .val (.int (lbF xf)), .val (.int (cF xa)), .val (.int (cF xb)), .val (.int (cF xe)), .val (.ref b1), .val (.int (cndR (cF xa) (eqF (nextR initS (lbF xa)) (1 : Int32)) (sg1 (lbF xa)) (lbF xb) (1 : Int32))), .unset] [(.int ((cndR (cF xa) (eqF (nextR initS (lbF xa)) (1 : Int32)) (sg1 (lbF xa)) (lbF xb) (1 : Int32)) &&& (eqF (nextR (cndS (cF xa) (sg1 (lbF xa)) (lbF xb)) (lbF xc)) (w2F (cF xa) (lbF xb) (lbF xc)))))])) _
      refine XS.istore X7.here hx rfl (hb hby at_176) rfl (l' := #[.val (.int xa), .val (.int xb), .val (.int xc), .val (.int xd), .val (.int xe), .val (.int xf), .val (.int (lbF xa)), .val (.int (lbF xb)), .val (.int (lbF xc)), .val (.int (lbF xd)), .val (.int (lbF xe)), .val (.int (lbF xf)), .val (.int (cF xa)), .val (.int (cF xb)), .val (.int (cF xe)), .val (.ref b1), .val (.int ((cndR (cF xa) (eqF (nextR initS (lbF xa)) (1 : Int32)) (sg1 (lbF xa)) (lbF xb) (1 : Int32)) &&& (eqF (nextR (cndS (cF xa) (sg1 (lbF xa)) (lbF xb)) (lbF xc)) (w2F (cF xa) (lbF xb) (lbF xc))))), .unset]) rfl ?_
      exact kt
  obtain ⟨cq9, kq9, q9a, q9b, q9c⟩ := isOf hZ rfl (hS8.exa)
  obtain ⟨_, _, ⟨T9, L9, k9, n9⟩, -, X9, ⟨Lc9, hQ9, l9, y9, z9⟩, st9⟩ := X8.virtualBack hx (y := (⟨"com/example/orsay/orsay/SiblingPositions", "close", "()V"⟩ : MethodName)) (z := (⟨"com/example/orsay/orsay/SiblingPositions", "close", "()V"⟩ : MethodName)) hown (mvT hZ (hw _ (List.mem_of_getElem? (i := 59) rfl))) (mvT hZ (hw _ (List.mem_of_getElem? (i := 60) rfl))) (notFace_of_selects (args := #[]) (mvT hZ (hw _ (List.mem_of_getElem? (i := 62) rfl)))) (mvT hZ (hw _ (List.mem_of_getElem? (i := 62) rfl))) (mvT hZ (hw _ (List.mem_of_getElem? (i := 61) rfl))) (by decide) (backOf (W := 0) (rm_closew l Z a0 hw [] b1 (sg2 (lbF xa) (cF xa) (lbF xb) (cF xb) (lbF xc)) T8.heap n0 hS8.size hS8 r5) hZ (hw _ (List.mem_of_getElem? (i := 63) rfl)) (hw _ (List.mem_of_getElem? (i := 2) rfl)) (by decide) (by decide)) q9a q9c (g := (mkF m 180 #[.val (.int xa), .val (.int xb), .val (.int xc), .val (.int xd), .val (.int xe), .val (.int xf), .val (.int (lbF xa)), .val (.int (lbF xb)), .val (.int (lbF xc)), .val (.int (lbF xd)), .val (.int (lbF xe)), .val (.int (lbF xf)), .val (.int (cF xa)), .val (.int (cF xb)), .val (.int (cF xe)), .val (.ref b1), .val (.int (ok1 (lbF xa) (cF xa) (lbF xb) (cF xb) (lbF xc))), .unset] [(.ref b1)])) rfl (by rw [hml]; rfl) (Steps.refl _) (argsL := []) (rest := []) (lenOf pd_5 rfl) rfl (by show 2 * 0 + _ ≤ _; exact Nat.le_of_eq rfl) (hb hby at_180) (fun _ _ => ⟨rfl, rfl, (by decide : 9 + 0 ≤ _), (by decide : 95 + 0 ≤ _)⟩)
  dsimp only [Pt.U, Pt.locs, Pt.cells, Pt.slots] at X9 l9 y9 z9 st9 hQ9
  subst l9 y9 z9
  obtain ⟨rfl, N9q, hq9⟩ := hQ9
  have N9 := Fr.app N8 N9q
  have hS9 : SPs Z n0 T9.heap b1 (closeS (sg2 (lbF xa) (cF xa) (lbF xb) (cF xb) (lbF xc))) := hq9
  obtain ⟨cq10, kq10, q10a, q10b, q10c⟩ := isOf hZ rfl (hS9.exa)
  obtain ⟨_, _, ⟨T10, L10, k10, n10⟩, -, X10, ⟨Lc10, hQ10, l10, y10, z10⟩, st10⟩ := X9.virtualBack hx (y := (⟨"com/example/orsay/orsay/SiblingPositions", "next", "(I)I"⟩ : MethodName)) (z := (⟨"com/example/orsay/orsay/SiblingPositions", "next", "(I)I"⟩ : MethodName)) hown (mvT hZ (hw _ (List.mem_of_getElem? (i := 20) rfl))) (mvT hZ (hw _ (List.mem_of_getElem? (i := 21) rfl))) (notFace_of_selects (args := #[]) (mvT hZ (hw _ (List.mem_of_getElem? (i := 23) rfl)))) (mvT hZ (hw _ (List.mem_of_getElem? (i := 23) rfl))) (mvT hZ (hw _ (List.mem_of_getElem? (i := 22) rfl))) (by decide) (backOf (W := 1) (rm_nextw l Z a0 hw [] b1 (lbF xd) (closeS (sg2 (lbF xa) (cF xa) (lbF xb) (cF xb) (lbF xc))) T9.heap n0 hS9.size hS9 r6) hZ (hw _ (List.mem_of_getElem? (i := 24) rfl)) (hw _ (List.mem_of_getElem? (i := 2) rfl)) (by decide) (by decide)) q10a q10c (g := (mkF m 189 #[.val (.int xa), .val (.int xb), .val (.int xc), .val (.int xd), .val (.int xe), .val (.int xf), .val (.int (lbF xa)), .val (.int (lbF xb)), .val (.int (lbF xc)), .val (.int (lbF xd)), .val (.int (lbF xe)), .val (.int (lbF xf)), .val (.int (cF xa)), .val (.int (cF xb)), .val (.int (cF xe)), .val (.ref b1), .val (.int (ok1 (lbF xa) (cF xa) (lbF xb) (cF xb) (lbF xc))), .unset] [(.int (lbF xd)), (.ref b1), (.int (ok1 (lbF xa) (cF xa) (lbF xb) (cF xb) (lbF xc)))])) rfl (by rw [hml]; rfl) (Steps.refl _) (argsL := [(.int (lbF xd))]) (rest := [(.int (ok1 (lbF xa) (cF xa) (lbF xb) (cF xb) (lbF xc)))]) (lenOf pd_6 rfl) rfl (by show 2 * 0 + _ ≤ _; exact Nat.le_of_eq rfl) (hb hby at_189) (fun _ _ => ⟨rfl, rfl, (by decide : 9 + 1 ≤ _), (by decide : 95 + 8 ≤ _)⟩)
  dsimp only [Pt.U, Pt.locs, Pt.cells, Pt.slots] at X10 l10 y10 z10 st10 hQ10
  subst l10 y10 z10
  obtain ⟨rfl, N10q, hq10⟩ := hQ10
  have N10 := Fr.app N9 N10q
  have hS10 : SPs Z n0 T10.heap b1 (nextS (closeS (sg2 (lbF xa) (cF xa) (lbF xb) (cF xb) (lbF xc))) (lbF xd)) := hq10
  obtain ⟨cq11, kq11, q11a, q11b, q11c⟩ := isOf hZ rfl (hS10.exa)
  obtain ⟨_, _, ⟨T11, L11, k11, n11⟩, -, X11, ⟨Lc11, hQ11, l11, y11, z11⟩, st11⟩ := X10.virtualBack hx (y := (⟨"com/example/orsay/orsay/SiblingPositions", "open", "()V"⟩ : MethodName)) (z := (⟨"com/example/orsay/orsay/SiblingPositions", "open", "()V"⟩ : MethodName)) hown (mvT hZ (hw _ (List.mem_of_getElem? (i := 54) rfl))) (mvT hZ (hw _ (List.mem_of_getElem? (i := 55) rfl))) (notFace_of_selects (args := #[]) (mvT hZ (hw _ (List.mem_of_getElem? (i := 57) rfl)))) (mvT hZ (hw _ (List.mem_of_getElem? (i := 57) rfl))) (mvT hZ (hw _ (List.mem_of_getElem? (i := 56) rfl))) (by decide) (backOf (W := 0) (rm_openw l Z a0 hw [] b1 (nextS (closeS (sg2 (lbF xa) (cF xa) (lbF xb) (cF xb) (lbF xc))) (lbF xd)) T10.heap n0 hS10.size hS10 r7) hZ (hw _ (List.mem_of_getElem? (i := 58) rfl)) (hw _ (List.mem_of_getElem? (i := 2) rfl)) (by decide) (by decide)) q11a q11c (g := (mkF m 217 #[.val (.int xa), .val (.int xb), .val (.int xc), .val (.int xd), .val (.int xe), .val (.int xf), .val (.int (lbF xa)), .val (.int (lbF xb)), .val (.int (lbF xc)), .val (.int (lbF xd)), .val (.int (lbF xe)), .val (.int (lbF xf)), .val (.int (cF xa)), .val (.int (cF xb)), .val (.int (cF xe)), .val (.ref b1), .val (.int (ok2 (lbF xa) (cF xa) (lbF xb) (cF xb) (lbF xc) (lbF xd))), .unset] [(.ref b1)])) rfl (by rw [hml]; rfl) (Steps.refl _) (argsL := []) (rest := []) (lenOf pd_5 rfl) rfl (by show 2 * 0 + _ ≤ _; exact Nat.le_of_eq rfl) (hb hby at_217) (fun _ _ => ⟨rfl, rfl, (by decide : 10 + 0 ≤ _), (by decide : 103 + 0 ≤ _)⟩)
  dsimp only [Pt.U, Pt.locs, Pt.cells, Pt.slots] at X11 l11 y11 z11 st11 hQ11
  subst l11 y11 z11
  obtain ⟨rfl, N11q, hq11⟩ := hQ11
  have N11 := Fr.app N10 N11q
  have hS11 : SPs Z n0 T11.heap b1 (sg3 (lbF xa) (cF xa) (lbF xb) (cF xb) (lbF xc) (lbF xd)) := hq11
  obtain ⟨T13, L13, X13, N13, hS13, st13⟩ : ∃ (T' : State) (L' : List Loc), Stand p l e room_1 s m #[(.int xa), (.int xb), (.int xc), (.int xd), (.int xe), (.int xf)] below meth c T' L' 11 111 ∧ Fr n0 L' ∧ SPs Z n0 T'.heap b1 (cndS (cF xe) (sg3 (lbF xa) (cF xa) (lbF xb) (cF xb) (lbF xc) (lbF xd)) (lbF xe)) ∧ ∀ target, Steps p.tables e below (T'.setTop (mkF m 246 #[.val (.int xa), .val (.int xb), .val (.int xc), .val (.int xd), .val (.int xe), .val (.int xf), .val (.int (lbF xa)), .val (.int (lbF xb)), .val (.int (lbF xc)), .val (.int (lbF xd)), .val (.int (lbF xe)), .val (.int (lbF xf)), .val (.int (cF xa)), .val (.int (cF xb)), .val (.int (cF xe)), .val (.ref b1), .val (.int (ok3 (lbF xa) (cF xa) (lbF xb) (cF xb) (lbF xc) (lbF xd) (cF xe) (lbF xe))), .unset] [])) target → Steps p.tables e below (T11.setTop (mkF m 220 #[.val (.int xa), .val (.int xb), .val (.int xc), .val (.int xd), .val (.int xe), .val (.int xf), .val (.int (lbF xa)), .val (.int (lbF xb)), .val (.int (lbF xc)), .val (.int (lbF xd)), .val (.int (lbF xe)), .val (.int (lbF xf)), .val (.int (cF xa)), .val (.int (cF xb)), .val (.int (cF xe)), .val (.ref b1), .val (.int (ok2 (lbF xa) (cF xa) (lbF xb) (cF xb) (lbF xc) (lbF xd))), .unset] [])) target := by
    by_cases hz : (cF xe) = (0 : Int32)
    · refine ⟨T11, _, X11.more (by decide) (by decide), N11, (by rw [show (cndS (cF xe) (sg3 (lbF xa) (cF xa) (lbF xb) (cF xb) (lbF xc) (lbF xd)) (lbF xe)) = (sg3 (lbF xa) (cF xa) (lbF xb) (cF xb) (lbF xc) (lbF xd)) from if_pos hz]; exact hS11), fun target kt => ?_⟩
      rw [show (ok3 (lbF xa) (cF xa) (lbF xb) (cF xb) (lbF xc) (lbF xd) (cF xe) (lbF xe)) = (ok2 (lbF xa) (cF xa) (lbF xb) (cF xb) (lbF xc) (lbF xd)) from if_pos hz] at kt
      show Steps p.tables e below (T11.setTop (mkF m 220 #[.val (.int xa), .val (.int xb), .val (.int xc), .val (.int xd), .val (.int xe), .val (.int xf), .val (.int (lbF xa)), .val (.int (lbF xb)), .val (.int (lbF xc)), .val (.int (lbF xd)), .val (.int (lbF xe)), .val (.int (lbF xf)), .val (.int (cF xa)), .val (.int (cF xb)), .val (.int (cF xe)), .val (.ref b1), .val (.int (ok2 (lbF xa) (cF xa) (lbF xb) (cF xb) (lbF xc) (lbF xd))), .unset] [])) _
      refine XS.iload X11.here hx rfl (hb hby at_220) rfl ?_
      show Steps p.tables e below (T11.setTop (mkF m 222 #[.val (.int xa), .val (.int xb), .val (.int xc), .val (.int xd), .val (.int xe), .val (.int xf), .val (.int (lbF xa)), .val (.int (lbF xb)), .val (.int (lbF xc)), .val (.int (lbF xd)), .val (.int (lbF xe)), .val (.int (lbF xf)), .val (.int (cF xa)), .val (.int (cF xb)), .val (.int (cF xe)), .val (.ref b1), .val (.int (ok2 (lbF xa) (cF xa) (lbF xb) (cF xb) (lbF xc) (lbF xd))), .unset] [(.int (cF xe))])) _
      refine XS.ifYes X11.here hx rfl (pc0 := 222) (pc' := 246) rfl (hb hby at_222) rfl ((if0 _ _).trans (teq hz).1) (by decide) (by decide) ?_
      exact kt
    · obtain ⟨cq12, kq12, q12a, q12b, q12c⟩ := isOf hZ rfl (hS11.exa)
      obtain ⟨_, _, ⟨T12, L12, k12, n12⟩, -, X12, ⟨Lc12, hQ12, l12, y12, z12⟩, st12⟩ := X11.virtualBack hx (y := (⟨"com/example/orsay/orsay/SiblingPositions", "next", "(I)I"⟩ : MethodName)) (z := (⟨"com/example/orsay/orsay/SiblingPositions", "next", "(I)I"⟩ : MethodName)) hown (mvT hZ (hw _ (List.mem_of_getElem? (i := 20) rfl))) (mvT hZ (hw _ (List.mem_of_getElem? (i := 21) rfl))) (notFace_of_selects (args := #[]) (mvT hZ (hw _ (List.mem_of_getElem? (i := 23) rfl)))) (mvT hZ (hw _ (List.mem_of_getElem? (i := 23) rfl))) (mvT hZ (hw _ (List.mem_of_getElem? (i := 22) rfl))) (by decide) (backOf (W := 1) (rm_nextw l Z a0 hw [] b1 (lbF xe) (sg3 (lbF xa) (cF xa) (lbF xb) (cF xb) (lbF xc) (lbF xd)) T11.heap n0 hS11.size hS11 (cnd_pos hz r8)) hZ (hw _ (List.mem_of_getElem? (i := 24) rfl)) (hw _ (List.mem_of_getElem? (i := 2) rfl)) (by decide) (by decide)) q12a q12c (g := (mkF m 231 #[.val (.int xa), .val (.int xb), .val (.int xc), .val (.int xd), .val (.int xe), .val (.int xf), .val (.int (lbF xa)), .val (.int (lbF xb)), .val (.int (lbF xc)), .val (.int (lbF xd)), .val (.int (lbF xe)), .val (.int (lbF xf)), .val (.int (cF xa)), .val (.int (cF xb)), .val (.int (cF xe)), .val (.ref b1), .val (.int (ok2 (lbF xa) (cF xa) (lbF xb) (cF xb) (lbF xc) (lbF xd))), .unset] [(.int (lbF xe)), (.ref b1), (.int (ok2 (lbF xa) (cF xa) (lbF xb) (cF xb) (lbF xc) (lbF xd)))])) rfl (by rw [hml]; rfl) (Steps.refl _) (argsL := [(.int (lbF xe))]) (rest := [(.int (ok2 (lbF xa) (cF xa) (lbF xb) (cF xb) (lbF xc) (lbF xd)))]) (lenOf pd_6 rfl) rfl (by show 2 * 0 + _ ≤ _; exact Nat.le_of_eq rfl) (hb hby at_231) (fun _ _ => ⟨rfl, rfl, (by decide : 10 + 1 ≤ _), (by decide : 103 + 8 ≤ _)⟩)
      dsimp only [Pt.U, Pt.locs, Pt.cells, Pt.slots] at X12 l12 y12 z12 st12 hQ12
      subst l12 y12 z12
      obtain ⟨rfl, N12q, hq12⟩ := hQ12
      have N12 := Fr.app N11 N12q
      have hS12 : SPs Z n0 T12.heap b1 (nextS (sg3 (lbF xa) (cF xa) (lbF xb) (cF xb) (lbF xc) (lbF xd)) (lbF xe)) := hq12
      refine ⟨T12, _, X12.more (by decide) (by decide), N12, (by rw [show (cndS (cF xe) (sg3 (lbF xa) (cF xa) (lbF xb) (cF xb) (lbF xc) (lbF xd)) (lbF xe)) = (nextS (sg3 (lbF xa) (cF xa) (lbF xb) (cF xb) (lbF xc) (lbF xd)) (lbF xe)) from if_neg hz]; exact hS12), fun target kt => ?_⟩
      rw [show (ok3 (lbF xa) (cF xa) (lbF xb) (cF xb) (lbF xc) (lbF xd) (cF xe) (lbF xe)) = ((ok2 (lbF xa) (cF xa) (lbF xb) (cF xb) (lbF xc) (lbF xd)) &&& (eqF (nextR (sg3 (lbF xa) (cF xa) (lbF xb) (cF xb) (lbF xc) (lbF xd)) (lbF xe)) (1 : Int32))) from if_neg hz] at kt
      show Steps p.tables e below (T11.setTop (mkF m 220 #[.val (.int xa), .val (.int xb), .val (.int xc), .val (.int xd), .val (.int xe), .val (.int xf), .val (.int (lbF xa)), .val (.int (lbF xb)), .val (.int (lbF xc)), .val (.int (lbF xd)), .val (.int (lbF xe)), .val (.int (lbF xf)), .val (.int (cF xa)), .val (.int (cF xb)), .val (.int (cF xe)), .val (.ref b1), .val (.int (ok2 (lbF xa) (cF xa) (lbF xb) (cF xb) (lbF xc) (lbF xd))), .unset] [])) _
      refine XS.iload X11.here hx rfl (hb hby at_220) rfl ?_
      show Steps p.tables e below (T11.setTop (mkF m 222 #[.val (.int xa), .val (.int xb), .val (.int xc), .val (.int xd), .val (.int xe), .val (.int xf), .val (.int (lbF xa)), .val (.int (lbF xb)), .val (.int (lbF xc)), .val (.int (lbF xd)), .val (.int (lbF xe)), .val (.int (lbF xf)), .val (.int (cF xa)), .val (.int (cF xb)), .val (.int (cF xe)), .val (.ref b1), .val (.int (ok2 (lbF xa) (cF xa) (lbF xb) (cF xb) (lbF xc) (lbF xd))), .unset] [(.int (cF xe))])) _
      refine XS.ifNo X11.here hx rfl (hb hby at_222) rfl ((if0 _ _).trans (feq hz).1) ?_
      show Steps p.tables e below (T11.setTop (mkF m 225 #[.val (.int xa), .val (.int xb), .val (.int xc), .val (.int xd), .val (.int xe), .val (.int xf), .val (.int (lbF xa)), .val (.int (lbF xb)), .val (.int (lbF xc)), .val (.int (lbF xd)), .val (.int (lbF xe)), .val (.int (lbF xf)), .val (.int (cF xa)), .val (.int (cF xb)), .val (.int (cF xe)), .val (.ref b1), .val (.int (ok2 (lbF xa) (cF xa) (lbF xb) (cF xb) (lbF xc) (lbF xd))), .unset] [])) _
      refine XS.iload X11.here hx rfl (hb hby at_225) rfl ?_
      show Steps p.tables e below (T11.setTop (mkF m 227 #[.val (.int xa), .val (.int xb), .val (.int xc), .val (.int xd), .val (.int xe), .val (.int xf), .val (.int (lbF xa)), .val (.int (lbF xb)), .val (.int (lbF xc)), .val (.int (lbF xd)), .val (.int (lbF xe)), .val (.int (lbF xf)), .val (.int (cF xa)), .val (.int (cF xb)), .val (.int (cF xe)), .val (.ref b1), .val (.int (ok2 (lbF xa) (cF xa) (lbF xb) (cF xb) (lbF xc) (lbF xd))), .unset] [(.int (ok2 (lbF xa) (cF xa) (lbF xb) (cF xb) (lbF xc) (lbF xd)))])) _
      refine XS.aload X11.here hx rfl (hb hby at_227) rfl rfl ?_
      show Steps p.tables e below (T11.setTop (mkF m 229 #[.val (.int xa), .val (.int xb), .val (.int xc), .val (.int xd), .val (.int xe), .val (.int xf), .val (.int (lbF xa)), .val (.int (lbF xb)), .val (.int (lbF xc)), .val (.int (lbF xd)), .val (.int (lbF xe)), .val (.int (lbF xf)), .val (.int (cF xa)), .val (.int (cF xb)), .val (.int (cF xe)), .val (.ref b1), .val (.int (ok2 (lbF xa) (cF xa) (lbF xb) (cF xb) (lbF xc) (lbF xd))), .unset] [(.ref b1), (.int (ok2 (lbF xa) (cF xa) (lbF xb) (cF xb) (lbF xc) (lbF xd)))])) _
      refine XS.iload X11.here hx rfl (hb hby at_229) rfl ?_
      show Steps p.tables e below (T11.setTop (mkF m 231 #[.val (.int xa), .val (.int xb), .val (.int xc), .val (.int xd), .val (.int xe), .val (.int xf), .val (.int (lbF xa)), .val (.int (lbF xb)), .val (.int (lbF xc)), .val (.int (lbF xd)), .val (.int (lbF xe)), .val (.int (lbF xf)), .val (.int (cF xa)), .val (.int (cF xb)), .val (.int (cF xe)), .val (.ref b1), .val (.int (ok2 (lbF xa) (cF xa) (lbF xb) (cF xb) (lbF xc) (lbF xd))), .unset] [(.int (lbF xe)), (.ref b1), (.int (ok2 (lbF xa) (cF xa) (lbF xb) (cF xb) (lbF xc) (lbF xd)))])) _
      refine st12.trans ?_
      show Steps p.tables e below (T12.setTop (mkF m 234 #[.val (.int xa), .val (.int xb), .val (.int xc), .val (.int xd), .val (.int xe), .val (.int xf), .val (.int (lbF xa)), .val (.int (lbF xb)), .val (.int (lbF xc)), .val (.int (lbF xd)), .val (.int (lbF xe)), .val (.int (lbF xf)), .val (.int (cF xa)), .val (.int (cF xb)), .val (.int (cF xe)), .val (.ref b1), .val (.int (ok2 (lbF xa) (cF xa) (lbF xb) (cF xb) (lbF xc) (lbF xd))), .unset] [(.int (nextR (sg3 (lbF xa) (cF xa) (lbF xb) (cF xb) (lbF xc) (lbF xd)) (lbF xe))), (.int (ok2 (lbF xa) (cF xa) (lbF xb) (cF xb) (lbF xc) (lbF xd)))])) _
      refine XS.iconst X12.here hx rfl (hb hby at_234) ?_
      show Steps p.tables e below (T12.setTop (mkF m 235 #[.val (.int xa), .val (.int xb), .val (.int xc), .val (.int xd), .val (.int xe), .val (.int xf), .val (.int (lbF xa)), .val (.int (lbF xb)), .val (.int (lbF xc)), .val (.int (lbF xd)), .val (.int (lbF xe)), .val (.int (lbF xf)), .val (.int (cF xa)), .val (.int (cF xb)), .val (.int (cF xe)), .val (.ref b1), .val (.int (ok2 (lbF xa) (cF xa) (lbF xb) (cF xb) (lbF xc) (lbF xd))), .unset] [(.int (1 : Int32)), (.int (nextR (sg3 (lbF xa) (cF xa) (lbF xb) (cF xb) (lbF xc) (lbF xd)) (lbF xe))), (.int (ok2 (lbF xa) (cF xa) (lbF xb) (cF xb) (lbF xc) (lbF xd)))])) _
      suffices J235 : Steps p.tables e below (T12.setTop (mkF m 243 #[.val (.int xa), .val (.int xb), .val (.int xc), .val (.int xd), .val (.int xe), .val (.int xf), .val (.int (lbF xa)), .val (.int (lbF xb)), .val (.int (lbF xc)), .val (.int (lbF xd)), .val (.int (lbF xe)), .val (.int (lbF xf)), .val (.int (cF xa)), .val (.int (cF xb)), .val (.int (cF xe)), .val (.ref b1), .val (.int (ok2 (lbF xa) (cF xa) (lbF xb) (cF xb) (lbF xc) (lbF xd))), .unset] [(.int (eqF (nextR (sg3 (lbF xa) (cF xa) (lbF xb) (cF xb) (lbF xc) (lbF xd)) (lbF xe)) (1 : Int32))), (.int (ok2 (lbF xa) (cF xa) (lbF xb) (cF xb) (lbF xc) (lbF xd)))])) target by
        by_cases h235 : (nextR (sg3 (lbF xa) (cF xa) (lbF xb) (cF xb) (lbF xc) (lbF xd)) (lbF xe)) = (1 : Int32)
        · refine XS.icmpNo X12.here hx rfl (hb hby at_235) rfl (teq h235).2 ?_
          show Steps p.tables e below (T12.setTop (mkF m 238 #[.val (.int xa), .val (.int xb), .val (.int xc), .val (.int xd), .val (.int xe), .val (.int xf), .val (.int (lbF xa)), .val (.int (lbF xb)), .val (.int (lbF xc)), .val (.int (lbF xd)), .val (.int (lbF xe)), .val (.int (lbF xf)), .val (.int (cF xa)), .val (.int (cF xb)), .val (.int (cF xe)), .val (.ref b1), .val (.int (ok2 (lbF xa) (cF xa) (lbF xb) (cF xb) (lbF xc) (lbF xd))), .unset] [(.int (ok2 (lbF xa) (cF xa) (lbF xb) (cF xb) (lbF xc) (lbF xd)))])) _
          refine XS.iconst X12.here hx rfl (hb hby at_238) ?_
          show Steps p.tables e below (T12.setTop (mkF m 239 #[.val (.int xa), .val (.int xb), .val (.int xc), .val (.int xd), .val (.int xe), .val (.int xf), .val (.int (lbF xa)), .val (.int (lbF xb)), .val (.int (lbF xc)), .val (.int (lbF xd)), .val (.int (lbF xe)), .val (.int (lbF xf)), .val (.int (cF xa)), .val (.int (cF xb)), .val (.int (cF xe)), .val (.ref b1), .val (.int (ok2 (lbF xa) (cF xa) (lbF xb) (cF xb) (lbF xc) (lbF xd))), .unset] [(.int (1 : Int32)), (.int (ok2 (lbF xa) (cF xa) (lbF xb) (cF xb) (lbF xc) (lbF xd)))])) _
          refine XS.goto X12.here hx rfl (pc0 := 239) (pc' := 243) rfl (hb hby at_239) (by decide) (by decide) ?_
          show Steps p.tables e below (T12.setTop (mkF m 243 #[.val (.int xa), .val (.int xb), .val (.int xc), .val (.int xd), .val (.int xe), .val (.int xf), .val (.int (lbF xa)), .val (.int (lbF xb)), .val (.int (lbF xc)), .val (.int (lbF xd)), .val (.int (lbF xe)), .val (.int (lbF xf)), .val (.int (cF xa)), .val (.int (cF xb)), .val (.int (cF xe)), .val (.ref b1), .val (.int (ok2 (lbF xa) (cF xa) (lbF xb) (cF xb) (lbF xc) (lbF xd))), .unset] [(.int (1 : Int32)), (.int (ok2 (lbF xa) (cF xa) (lbF xb) (cF xb) (lbF xc) (lbF xd)))])) _
          rw [show (eqF (nextR (sg3 (lbF xa) (cF xa) (lbF xb) (cF xb) (lbF xc) (lbF xd)) (lbF xe)) (1 : Int32)) = (1 : Int32) from by rw [eqF, if_pos h235]] at J235
          exact J235
        · refine XS.icmpYes X12.here hx rfl (pc0 := 235) (pc' := 242) rfl (hb hby at_235) rfl (feq h235).2 (by decide) (by decide) ?_
          show Steps p.tables e below (T12.setTop (mkF m 242 #[.val (.int xa), .val (.int xb), .val (.int xc), .val (.int xd), .val (.int xe), .val (.int xf), .val (.int (lbF xa)), .val (.int (lbF xb)), .val (.int (lbF xc)), .val (.int (lbF xd)), .val (.int (lbF xe)), .val (.int (lbF xf)), .val (.int (cF xa)), .val (.int (cF xb)), .val (.int (cF xe)), .val (.ref b1), .val (.int (ok2 (lbF xa) (cF xa) (lbF xb) (cF xb) (lbF xc) (lbF xd))), .unset] [(.int (ok2 (lbF xa) (cF xa) (lbF xb) (cF xb) (lbF xc) (lbF xd)))])) _
          refine XS.iconst X12.here hx rfl (hb hby at_242) ?_
          show Steps p.tables e below (T12.setTop (mkF m 243 #[.val (.int xa), .val (.int xb), .val (.int xc), .val (.int xd), .val (.int xe), .val (.int xf), .val (.int (lbF xa)), .val (.int (lbF xb)), .val (.int (lbF xc)), .val (.int (lbF xd)), .val (.int (lbF xe)), .val (.int (lbF xf)), .val (.int (cF xa)), .val (.int (cF xb)), .val (.int (cF xe)), .val (.ref b1), .val (.int (ok2 (lbF xa) (cF xa) (lbF xb) (cF xb) (lbF xc) (lbF xd))), .unset] [(.int (0 : Int32)), (.int (ok2 (lbF xa) (cF xa) (lbF xb) (cF xb) (lbF xc) (lbF xd)))])) _
          rw [show (eqF (nextR (sg3 (lbF xa) (cF xa) (lbF xb) (cF xb) (lbF xc) (lbF xd)) (lbF xe)) (1 : Int32)) = (0 : Int32) from by rw [eqF, if_neg h235]] at J235
          exact J235
      show Steps p.tables e below (T12.setTop (mkF m 243 #[.val (.int xa), .val (.int xb), .val (.int xc), .val (.int xd), .val (.int xe), .val (.int xf), .val (.int (lbF xa)), .val (.int (lbF xb)), .val (.int (lbF xc)), .val (.int (lbF xd)), .val (.int (lbF xe)), .val (.int (lbF xf)), .val (.int (cF xa)), .val (.int (cF xb)), .val (.int (cF xe)), .val (.ref b1), .val (.int (ok2 (lbF xa) (cF xa) (lbF xb) (cF xb) (lbF xc) (lbF xd))), .unset] [(.int (eqF (nextR (sg3 (lbF xa) (cF xa) (lbF xb) (cF xb) (lbF xc) (lbF xd)) (lbF xe)) (1 : Int32))), (.int (ok2 (lbF xa) (cF xa) (lbF xb) (cF xb) (lbF xc) (lbF xd)))])) _
      refine XS.iand X12.here hx rfl (hb hby at_243) rfl ?_
      show Steps p.tables e below (T12.setTop (mkF m 244 #[.val (.int xa), .val (.int xb), .val (.int xc), .val (.int xd), .val (.int xe), .val (.int xf), .val (.int (lbF xa)), .val (.int (lbF xb)), .val (.int (lbF xc)), .val (.int (lbF xd)), .val (.int (lbF xe)), .val (.int (lbF xf)), .val (.int (cF xa)), .val (.int (cF xb)), .val (.int (cF xe)), .val (.ref b1), .val (.int (ok2 (lbF xa) (cF xa) (lbF xb) (cF xb) (lbF xc) (lbF xd))), .unset] [(.int ((ok2 (lbF xa) (cF xa) (lbF xb) (cF xb) (lbF xc) (lbF xd)) &&& (eqF (nextR (sg3 (lbF xa) (cF xa) (lbF xb) (cF xb) (lbF xc) (lbF xd)) (lbF xe)) (1 : Int32))))])) _
      refine XS.istore X12.here hx rfl (hb hby at_244) rfl (l' := #[.val (.int xa), .val (.int xb), .val (.int xc), .val (.int xd), .val (.int xe), .val (.int xf), .val (.int (lbF xa)), .val (.int (lbF xb)), .val (.int (lbF xc)), .val (.int (lbF xd)), .val (.int (lbF xe)), .val (.int (lbF xf)), .val (.int (cF xa)), .val (.int (cF xb)), .val (.int (cF xe)), .val (.ref b1), .val (.int ((ok2 (lbF xa) (cF xa) (lbF xb) (cF xb) (lbF xc) (lbF xd)) &&& (eqF (nextR (sg3 (lbF xa) (cF xa) (lbF xb) (cF xb) (lbF xc) (lbF xd)) (lbF xe)) (1 : Int32)))), .unset]) rfl ?_
      exact kt
  obtain ⟨cq14, kq14, q14a, q14b, q14c⟩ := isOf hZ rfl (hS13.exa)
  obtain ⟨_, _, ⟨T14, L14, k14, n14⟩, -, X14, ⟨Lc14, hQ14, l14, y14, z14⟩, st14⟩ := X13.virtualBack hx (y := (⟨"com/example/orsay/orsay/SiblingPositions", "close", "()V"⟩ : MethodName)) (z := (⟨"com/example/orsay/orsay/SiblingPositions", "close", "()V"⟩ : MethodName)) hown (mvT hZ (hw _ (List.mem_of_getElem? (i := 59) rfl))) (mvT hZ (hw _ (List.mem_of_getElem? (i := 60) rfl))) (notFace_of_selects (args := #[]) (mvT hZ (hw _ (List.mem_of_getElem? (i := 62) rfl)))) (mvT hZ (hw _ (List.mem_of_getElem? (i := 62) rfl))) (mvT hZ (hw _ (List.mem_of_getElem? (i := 61) rfl))) (by decide) (backOf (W := 0) (rm_closew l Z a0 hw [] b1 (cndS (cF xe) (sg3 (lbF xa) (cF xa) (lbF xb) (cF xb) (lbF xc) (lbF xd)) (lbF xe)) T13.heap n0 hS13.size hS13 r9) hZ (hw _ (List.mem_of_getElem? (i := 63) rfl)) (hw _ (List.mem_of_getElem? (i := 2) rfl)) (by decide) (by decide)) q14a q14c (g := (mkF m 248 #[.val (.int xa), .val (.int xb), .val (.int xc), .val (.int xd), .val (.int xe), .val (.int xf), .val (.int (lbF xa)), .val (.int (lbF xb)), .val (.int (lbF xc)), .val (.int (lbF xd)), .val (.int (lbF xe)), .val (.int (lbF xf)), .val (.int (cF xa)), .val (.int (cF xb)), .val (.int (cF xe)), .val (.ref b1), .val (.int (ok3 (lbF xa) (cF xa) (lbF xb) (cF xb) (lbF xc) (lbF xd) (cF xe) (lbF xe))), .unset] [(.ref b1)])) rfl (by rw [hml]; rfl) (Steps.refl _) (argsL := []) (rest := []) (lenOf pd_5 rfl) rfl (by show 2 * 0 + _ ≤ _; exact Nat.le_of_eq rfl) (hb hby at_248) (fun _ _ => ⟨rfl, rfl, (by decide : 11 + 0 ≤ _), (by decide : 111 + 0 ≤ _)⟩)
  dsimp only [Pt.U, Pt.locs, Pt.cells, Pt.slots] at X14 l14 y14 z14 st14 hQ14
  subst l14 y14 z14
  obtain ⟨rfl, N14q, hq14⟩ := hQ14
  have N14 := Fr.app N13 N14q
  have hS14 : SPs Z n0 T14.heap b1 (sg4 (lbF xa) (cF xa) (lbF xb) (cF xb) (lbF xc) (lbF xd) (cF xe) (lbF xe)) := hq14
  obtain ⟨cq15, kq15, q15a, q15b, q15c⟩ := isOf hZ rfl (hS14.exa)
  obtain ⟨_, _, ⟨T15, L15, k15, n15⟩, -, X15, ⟨Lc15, hQ15, l15, y15, z15⟩, st15⟩ := X14.virtualBack hx (y := (⟨"com/example/orsay/orsay/SiblingPositions", "next", "(I)I"⟩ : MethodName)) (z := (⟨"com/example/orsay/orsay/SiblingPositions", "next", "(I)I"⟩ : MethodName)) hown (mvT hZ (hw _ (List.mem_of_getElem? (i := 20) rfl))) (mvT hZ (hw _ (List.mem_of_getElem? (i := 21) rfl))) (notFace_of_selects (args := #[]) (mvT hZ (hw _ (List.mem_of_getElem? (i := 23) rfl)))) (mvT hZ (hw _ (List.mem_of_getElem? (i := 23) rfl))) (mvT hZ (hw _ (List.mem_of_getElem? (i := 22) rfl))) (by decide) (backOf (W := 1) (rm_nextw l Z a0 hw [] b1 (lbF xf) (sg4 (lbF xa) (cF xa) (lbF xb) (cF xb) (lbF xc) (lbF xd) (cF xe) (lbF xe)) T14.heap n0 hS14.size hS14 r10) hZ (hw _ (List.mem_of_getElem? (i := 24) rfl)) (hw _ (List.mem_of_getElem? (i := 2) rfl)) (by decide) (by decide)) q15a q15c (g := (mkF m 286 #[.val (.int xa), .val (.int xb), .val (.int xc), .val (.int xd), .val (.int xe), .val (.int xf), .val (.int (lbF xa)), .val (.int (lbF xb)), .val (.int (lbF xc)), .val (.int (lbF xd)), .val (.int (lbF xe)), .val (.int (lbF xf)), .val (.int (cF xa)), .val (.int (cF xb)), .val (.int (cF xe)), .val (.ref b1), .val (.int (ok3 (lbF xa) (cF xa) (lbF xb) (cF xb) (lbF xc) (lbF xd) (cF xe) (lbF xe))), .val (.int (w5F (lbF xf) (lbF xa) (lbF xd)))] [(.int (lbF xf)), (.ref b1), (.int (ok3 (lbF xa) (cF xa) (lbF xb) (cF xb) (lbF xc) (lbF xd) (cF xe) (lbF xe)))])) rfl (by rw [hml]; rfl) (Steps.refl _) (argsL := [(.int (lbF xf))]) (rest := [(.int (ok3 (lbF xa) (cF xa) (lbF xb) (cF xb) (lbF xc) (lbF xd) (cF xe) (lbF xe)))]) (lenOf pd_6 rfl) rfl (by show 2 * 0 + _ ≤ _; exact Nat.le_of_eq rfl) (hb hby at_286) (fun _ _ => ⟨rfl, rfl, (by decide : 11 + 1 ≤ _), (by decide : 111 + 8 ≤ _)⟩)
  dsimp only [Pt.U, Pt.locs, Pt.cells, Pt.slots] at X15 l15 y15 z15 st15 hQ15
  subst l15 y15 z15
  obtain ⟨rfl, N15q, hq15⟩ := hQ15
  have N15 := Fr.app N14 N15q
  have hS15 : SPs Z n0 T15.heap b1 (nextS (sg4 (lbF xa) (cF xa) (lbF xb) (cF xb) (lbF xc) (lbF xd) (cF xe) (lbF xe)) (lbF xf)) := hq15
  obtain ⟨fs, hr, hrun, hended, hW, hsame⟩ := X15.leave (v := some (.int (1 : Int32))) (fun h => by rw [Bd.returns] at h; cases h)
  refine ⟨_, _, pre0 _ ?_, hrun, hended, _, _, rfl, ?_, ⟨_, rfl⟩, hW, hsame.mono (by decide) (by decide)⟩
  · show Steps p.tables e below (s₁.setTop (mkF m 0 #[.val (.int xa), .val (.int xb), .val (.int xc), .val (.int xd), .val (.int xe), .val (.int xf), .unset, .unset, .unset, .unset, .unset, .unset, .unset, .unset, .unset, .unset, .unset, .unset] [])) _
    refine XS.iloadN X0.here hx rfl (hb hby at_0) rfl ?_
    show Steps p.tables e below (s₁.setTop (mkF m 1 #[.val (.int xa), .val (.int xb), .val (.int xc), .val (.int xd), .val (.int xe), .val (.int xf), .unset, .unset, .unset, .unset, .unset, .unset, .unset, .unset, .unset, .unset, .unset, .unset] [(.int xa)])) _
    refine XS.iconst X0.here hx rfl (hb hby at_1) ?_
    show Steps p.tables e below (s₁.setTop (mkF m 2 #[.val (.int xa), .val (.int xb), .val (.int xc), .val (.int xd), .val (.int xe), .val (.int xf), .unset, .unset, .unset, .unset, .unset, .unset, .unset, .unset, .unset, .unset, .unset, .unset] [(.int (3 : Int32)), (.int xa)])) _
    refine XS.iand X0.here hx rfl (hb hby at_2) rfl ?_
    show Steps p.tables e below (s₁.setTop (mkF m 3 #[.val (.int xa), .val (.int xb), .val (.int xc), .val (.int xd), .val (.int xe), .val (.int xf), .unset, .unset, .unset, .unset, .unset, .unset, .unset, .unset, .unset, .unset, .unset, .unset] [(.int (xa &&& (3 : Int32)))])) _
    refine XS.istore X0.here hx rfl (hb hby at_3) rfl (l' := #[.val (.int xa), .val (.int xb), .val (.int xc), .val (.int xd), .val (.int xe), .val (.int xf), .val (.int (lbF xa)), .unset, .unset, .unset, .unset, .unset, .unset, .unset, .unset, .unset, .unset, .unset]) rfl ?_
    show Steps p.tables e below (s₁.setTop (mkF m 5 #[.val (.int xa), .val (.int xb), .val (.int xc), .val (.int xd), .val (.int xe), .val (.int xf), .val (.int (lbF xa)), .unset, .unset, .unset, .unset, .unset, .unset, .unset, .unset, .unset, .unset, .unset] [])) _
    refine XS.iloadN X0.here hx rfl (hb hby at_5) rfl ?_
    show Steps p.tables e below (s₁.setTop (mkF m 6 #[.val (.int xa), .val (.int xb), .val (.int xc), .val (.int xd), .val (.int xe), .val (.int xf), .val (.int (lbF xa)), .unset, .unset, .unset, .unset, .unset, .unset, .unset, .unset, .unset, .unset, .unset] [(.int xb)])) _
    refine XS.iconst X0.here hx rfl (hb hby at_6) ?_
    show Steps p.tables e below (s₁.setTop (mkF m 7 #[.val (.int xa), .val (.int xb), .val (.int xc), .val (.int xd), .val (.int xe), .val (.int xf), .val (.int (lbF xa)), .unset, .unset, .unset, .unset, .unset, .unset, .unset, .unset, .unset, .unset, .unset] [(.int (3 : Int32)), (.int xb)])) _
    refine XS.iand X0.here hx rfl (hb hby at_7) rfl ?_
    show Steps p.tables e below (s₁.setTop (mkF m 8 #[.val (.int xa), .val (.int xb), .val (.int xc), .val (.int xd), .val (.int xe), .val (.int xf), .val (.int (lbF xa)), .unset, .unset, .unset, .unset, .unset, .unset, .unset, .unset, .unset, .unset, .unset] [(.int (xb &&& (3 : Int32)))])) _
    refine XS.istore X0.here hx rfl (hb hby at_8) rfl (l' := #[.val (.int xa), .val (.int xb), .val (.int xc), .val (.int xd), .val (.int xe), .val (.int xf), .val (.int (lbF xa)), .val (.int (lbF xb)), .unset, .unset, .unset, .unset, .unset, .unset, .unset, .unset, .unset, .unset]) rfl ?_
    show Steps p.tables e below (s₁.setTop (mkF m 10 #[.val (.int xa), .val (.int xb), .val (.int xc), .val (.int xd), .val (.int xe), .val (.int xf), .val (.int (lbF xa)), .val (.int (lbF xb)), .unset, .unset, .unset, .unset, .unset, .unset, .unset, .unset, .unset, .unset] [])) _
    refine XS.iloadN X0.here hx rfl (hb hby at_10) rfl ?_
    show Steps p.tables e below (s₁.setTop (mkF m 11 #[.val (.int xa), .val (.int xb), .val (.int xc), .val (.int xd), .val (.int xe), .val (.int xf), .val (.int (lbF xa)), .val (.int (lbF xb)), .unset, .unset, .unset, .unset, .unset, .unset, .unset, .unset, .unset, .unset] [(.int xc)])) _
    refine XS.iconst X0.here hx rfl (hb hby at_11) ?_
    show Steps p.tables e below (s₁.setTop (mkF m 12 #[.val (.int xa), .val (.int xb), .val (.int xc), .val (.int xd), .val (.int xe), .val (.int xf), .val (.int (lbF xa)), .val (.int (lbF xb)), .unset, .unset, .unset, .unset, .unset, .unset, .unset, .unset, .unset, .unset] [(.int (3 : Int32)), (.int xc)])) _
    refine XS.iand X0.here hx rfl (hb hby at_12) rfl ?_
    show Steps p.tables e below (s₁.setTop (mkF m 13 #[.val (.int xa), .val (.int xb), .val (.int xc), .val (.int xd), .val (.int xe), .val (.int xf), .val (.int (lbF xa)), .val (.int (lbF xb)), .unset, .unset, .unset, .unset, .unset, .unset, .unset, .unset, .unset, .unset] [(.int (xc &&& (3 : Int32)))])) _
    refine XS.istore X0.here hx rfl (hb hby at_13) rfl (l' := #[.val (.int xa), .val (.int xb), .val (.int xc), .val (.int xd), .val (.int xe), .val (.int xf), .val (.int (lbF xa)), .val (.int (lbF xb)), .val (.int (lbF xc)), .unset, .unset, .unset, .unset, .unset, .unset, .unset, .unset, .unset]) rfl ?_
    show Steps p.tables e below (s₁.setTop (mkF m 15 #[.val (.int xa), .val (.int xb), .val (.int xc), .val (.int xd), .val (.int xe), .val (.int xf), .val (.int (lbF xa)), .val (.int (lbF xb)), .val (.int (lbF xc)), .unset, .unset, .unset, .unset, .unset, .unset, .unset, .unset, .unset] [])) _
    refine XS.iloadN X0.here hx rfl (hb hby at_15) rfl ?_
    show Steps p.tables e below (s₁.setTop (mkF m 16 #[.val (.int xa), .val (.int xb), .val (.int xc), .val (.int xd), .val (.int xe), .val (.int xf), .val (.int (lbF xa)), .val (.int (lbF xb)), .val (.int (lbF xc)), .unset, .unset, .unset, .unset, .unset, .unset, .unset, .unset, .unset] [(.int xd)])) _
    refine XS.iconst X0.here hx rfl (hb hby at_16) ?_
    show Steps p.tables e below (s₁.setTop (mkF m 17 #[.val (.int xa), .val (.int xb), .val (.int xc), .val (.int xd), .val (.int xe), .val (.int xf), .val (.int (lbF xa)), .val (.int (lbF xb)), .val (.int (lbF xc)), .unset, .unset, .unset, .unset, .unset, .unset, .unset, .unset, .unset] [(.int (3 : Int32)), (.int xd)])) _
    refine XS.iand X0.here hx rfl (hb hby at_17) rfl ?_
    show Steps p.tables e below (s₁.setTop (mkF m 18 #[.val (.int xa), .val (.int xb), .val (.int xc), .val (.int xd), .val (.int xe), .val (.int xf), .val (.int (lbF xa)), .val (.int (lbF xb)), .val (.int (lbF xc)), .unset, .unset, .unset, .unset, .unset, .unset, .unset, .unset, .unset] [(.int (xd &&& (3 : Int32)))])) _
    refine XS.istore X0.here hx rfl (hb hby at_18) rfl (l' := #[.val (.int xa), .val (.int xb), .val (.int xc), .val (.int xd), .val (.int xe), .val (.int xf), .val (.int (lbF xa)), .val (.int (lbF xb)), .val (.int (lbF xc)), .val (.int (lbF xd)), .unset, .unset, .unset, .unset, .unset, .unset, .unset, .unset]) rfl ?_
    show Steps p.tables e below (s₁.setTop (mkF m 20 #[.val (.int xa), .val (.int xb), .val (.int xc), .val (.int xd), .val (.int xe), .val (.int xf), .val (.int (lbF xa)), .val (.int (lbF xb)), .val (.int (lbF xc)), .val (.int (lbF xd)), .unset, .unset, .unset, .unset, .unset, .unset, .unset, .unset] [])) _
    refine XS.iload X0.here hx rfl (hb hby at_20) rfl ?_
    show Steps p.tables e below (s₁.setTop (mkF m 22 #[.val (.int xa), .val (.int xb), .val (.int xc), .val (.int xd), .val (.int xe), .val (.int xf), .val (.int (lbF xa)), .val (.int (lbF xb)), .val (.int (lbF xc)), .val (.int (lbF xd)), .unset, .unset, .unset, .unset, .unset, .unset, .unset, .unset] [(.int xe)])) _
    refine XS.iconst X0.here hx rfl (hb hby at_22) ?_
    show Steps p.tables e below (s₁.setTop (mkF m 23 #[.val (.int xa), .val (.int xb), .val (.int xc), .val (.int xd), .val (.int xe), .val (.int xf), .val (.int (lbF xa)), .val (.int (lbF xb)), .val (.int (lbF xc)), .val (.int (lbF xd)), .unset, .unset, .unset, .unset, .unset, .unset, .unset, .unset] [(.int (3 : Int32)), (.int xe)])) _
    refine XS.iand X0.here hx rfl (hb hby at_23) rfl ?_
    show Steps p.tables e below (s₁.setTop (mkF m 24 #[.val (.int xa), .val (.int xb), .val (.int xc), .val (.int xd), .val (.int xe), .val (.int xf), .val (.int (lbF xa)), .val (.int (lbF xb)), .val (.int (lbF xc)), .val (.int (lbF xd)), .unset, .unset, .unset, .unset, .unset, .unset, .unset, .unset] [(.int (xe &&& (3 : Int32)))])) _
    refine XS.istore X0.here hx rfl (hb hby at_24) rfl (l' := #[.val (.int xa), .val (.int xb), .val (.int xc), .val (.int xd), .val (.int xe), .val (.int xf), .val (.int (lbF xa)), .val (.int (lbF xb)), .val (.int (lbF xc)), .val (.int (lbF xd)), .val (.int (lbF xe)), .unset, .unset, .unset, .unset, .unset, .unset, .unset]) rfl ?_
    show Steps p.tables e below (s₁.setTop (mkF m 26 #[.val (.int xa), .val (.int xb), .val (.int xc), .val (.int xd), .val (.int xe), .val (.int xf), .val (.int (lbF xa)), .val (.int (lbF xb)), .val (.int (lbF xc)), .val (.int (lbF xd)), .val (.int (lbF xe)), .unset, .unset, .unset, .unset, .unset, .unset, .unset] [])) _
    refine XS.iload X0.here hx rfl (hb hby at_26) rfl ?_
    show Steps p.tables e below (s₁.setTop (mkF m 28 #[.val (.int xa), .val (.int xb), .val (.int xc), .val (.int xd), .val (.int xe), .val (.int xf), .val (.int (lbF xa)), .val (.int (lbF xb)), .val (.int (lbF xc)), .val (.int (lbF xd)), .val (.int (lbF xe)), .unset, .unset, .unset, .unset, .unset, .unset, .unset] [(.int xf)])) _
    refine XS.iconst X0.here hx rfl (hb hby at_28) ?_
    show Steps p.tables e below (s₁.setTop (mkF m 29 #[.val (.int xa), .val (.int xb), .val (.int xc), .val (.int xd), .val (.int xe), .val (.int xf), .val (.int (lbF xa)), .val (.int (lbF xb)), .val (.int (lbF xc)), .val (.int (lbF xd)), .val (.int (lbF xe)), .unset, .unset, .unset, .unset, .unset, .unset, .unset] [(.int (3 : Int32)), (.int xf)])) _
    refine XS.iand X0.here hx rfl (hb hby at_29) rfl ?_
    show Steps p.tables e below (s₁.setTop (mkF m 30 #[.val (.int xa), .val (.int xb), .val (.int xc), .val (.int xd), .val (.int xe), .val (.int xf), .val (.int (lbF xa)), .val (.int (lbF xb)), .val (.int (lbF xc)), .val (.int (lbF xd)), .val (.int (lbF xe)), .unset, .unset, .unset, .unset, .unset, .unset, .unset] [(.int (xf &&& (3 : Int32)))])) _
    refine XS.istore X0.here hx rfl (hb hby at_30) rfl (l' := #[.val (.int xa), .val (.int xb), .val (.int xc), .val (.int xd), .val (.int xe), .val (.int xf), .val (.int (lbF xa)), .val (.int (lbF xb)), .val (.int (lbF xc)), .val (.int (lbF xd)), .val (.int (lbF xe)), .val (.int (lbF xf)), .unset, .unset, .unset, .unset, .unset, .unset]) rfl ?_
    show Steps p.tables e below (s₁.setTop (mkF m 32 #[.val (.int xa), .val (.int xb), .val (.int xc), .val (.int xd), .val (.int xe), .val (.int xf), .val (.int (lbF xa)), .val (.int (lbF xb)), .val (.int (lbF xc)), .val (.int (lbF xd)), .val (.int (lbF xe)), .val (.int (lbF xf)), .unset, .unset, .unset, .unset, .unset, .unset] [])) _
    refine XS.iloadN X0.here hx rfl (hb hby at_32) rfl ?_
    show Steps p.tables e below (s₁.setTop (mkF m 33 #[.val (.int xa), .val (.int xb), .val (.int xc), .val (.int xd), .val (.int xe), .val (.int xf), .val (.int (lbF xa)), .val (.int (lbF xb)), .val (.int (lbF xc)), .val (.int (lbF xd)), .val (.int (lbF xe)), .val (.int (lbF xf)), .unset, .unset, .unset, .unset, .unset, .unset] [(.int xa)])) _
    refine XS.iconst X0.here hx rfl (hb hby at_33) ?_
    show Steps p.tables e below (s₁.setTop (mkF m 34 #[.val (.int xa), .val (.int xb), .val (.int xc), .val (.int xd), .val (.int xe), .val (.int xf), .val (.int (lbF xa)), .val (.int (lbF xb)), .val (.int (lbF xc)), .val (.int (lbF xd)), .val (.int (lbF xe)), .val (.int (lbF xf)), .unset, .unset, .unset, .unset, .unset, .unset] [(.int (2 : Int32)), (.int xa)])) _
    refine XS.iushr X0.here hx rfl (hb hby at_34) rfl ?_
    show Steps p.tables e below (s₁.setTop (mkF m 35 #[.val (.int xa), .val (.int xb), .val (.int xc), .val (.int xd), .val (.int xe), .val (.int xf), .val (.int (lbF xa)), .val (.int (lbF xb)), .val (.int (lbF xc)), .val (.int (lbF xd)), .val (.int (lbF xe)), .val (.int (lbF xf)), .unset, .unset, .unset, .unset, .unset, .unset] [(.int ((xa.toUInt32 >>> ((2 : Int32) &&& 31).toUInt32).toInt32))])) _
    refine XS.iconst X0.here hx rfl (hb hby at_35) ?_
    show Steps p.tables e below (s₁.setTop (mkF m 36 #[.val (.int xa), .val (.int xb), .val (.int xc), .val (.int xd), .val (.int xe), .val (.int xf), .val (.int (lbF xa)), .val (.int (lbF xb)), .val (.int (lbF xc)), .val (.int (lbF xd)), .val (.int (lbF xe)), .val (.int (lbF xf)), .unset, .unset, .unset, .unset, .unset, .unset] [(.int (1 : Int32)), (.int ((xa.toUInt32 >>> ((2 : Int32) &&& 31).toUInt32).toInt32))])) _
    refine XS.iand X0.here hx rfl (hb hby at_36) rfl ?_
    show Steps p.tables e below (s₁.setTop (mkF m 37 #[.val (.int xa), .val (.int xb), .val (.int xc), .val (.int xd), .val (.int xe), .val (.int xf), .val (.int (lbF xa)), .val (.int (lbF xb)), .val (.int (lbF xc)), .val (.int (lbF xd)), .val (.int (lbF xe)), .val (.int (lbF xf)), .unset, .unset, .unset, .unset, .unset, .unset] [(.int (bitF xa))])) _
    suffices J37 : Steps p.tables e below (s₁.setTop (mkF m 45 #[.val (.int xa), .val (.int xb), .val (.int xc), .val (.int xd), .val (.int xe), .val (.int xf), .val (.int (lbF xa)), .val (.int (lbF xb)), .val (.int (lbF xc)), .val (.int (lbF xd)), .val (.int (lbF xe)), .val (.int (lbF xf)), .unset, .unset, .unset, .unset, .unset, .unset] [(.int (cF xa))])) (T15.setFrames fs) by
      by_cases h37 : (bitF xa) = (0 : Int32)
      · refine XS.ifYes X0.here hx rfl (pc0 := 37) (pc' := 44) rfl (hb hby at_37) rfl ((if0 _ _).trans (teq h37).1) (by decide) (by decide) ?_
        show Steps p.tables e below (s₁.setTop (mkF m 44 #[.val (.int xa), .val (.int xb), .val (.int xc), .val (.int xd), .val (.int xe), .val (.int xf), .val (.int (lbF xa)), .val (.int (lbF xb)), .val (.int (lbF xc)), .val (.int (lbF xd)), .val (.int (lbF xe)), .val (.int (lbF xf)), .unset, .unset, .unset, .unset, .unset, .unset] [])) _
        refine XS.iconst X0.here hx rfl (hb hby at_44) ?_
        show Steps p.tables e below (s₁.setTop (mkF m 45 #[.val (.int xa), .val (.int xb), .val (.int xc), .val (.int xd), .val (.int xe), .val (.int xf), .val (.int (lbF xa)), .val (.int (lbF xb)), .val (.int (lbF xc)), .val (.int (lbF xd)), .val (.int (lbF xe)), .val (.int (lbF xf)), .unset, .unset, .unset, .unset, .unset, .unset] [(.int (0 : Int32))])) _
        rw [show (cF xa) = (0 : Int32) from by rw [cF, if_pos h37]] at J37
        exact J37
      · refine XS.ifNo X0.here hx rfl (hb hby at_37) rfl ((if0 _ _).trans (feq h37).1) ?_
        show Steps p.tables e below (s₁.setTop (mkF m 40 #[.val (.int xa), .val (.int xb), .val (.int xc), .val (.int xd), .val (.int xe), .val (.int xf), .val (.int (lbF xa)), .val (.int (lbF xb)), .val (.int (lbF xc)), .val (.int (lbF xd)), .val (.int (lbF xe)), .val (.int (lbF xf)), .unset, .unset, .unset, .unset, .unset, .unset] [])) _
        refine XS.iconst X0.here hx rfl (hb hby at_40) ?_
        show Steps p.tables e below (s₁.setTop (mkF m 41 #[.val (.int xa), .val (.int xb), .val (.int xc), .val (.int xd), .val (.int xe), .val (.int xf), .val (.int (lbF xa)), .val (.int (lbF xb)), .val (.int (lbF xc)), .val (.int (lbF xd)), .val (.int (lbF xe)), .val (.int (lbF xf)), .unset, .unset, .unset, .unset, .unset, .unset] [(.int (1 : Int32))])) _
        refine XS.goto X0.here hx rfl (pc0 := 41) (pc' := 45) rfl (hb hby at_41) (by decide) (by decide) ?_
        show Steps p.tables e below (s₁.setTop (mkF m 45 #[.val (.int xa), .val (.int xb), .val (.int xc), .val (.int xd), .val (.int xe), .val (.int xf), .val (.int (lbF xa)), .val (.int (lbF xb)), .val (.int (lbF xc)), .val (.int (lbF xd)), .val (.int (lbF xe)), .val (.int (lbF xf)), .unset, .unset, .unset, .unset, .unset, .unset] [(.int (1 : Int32))])) _
        rw [show (cF xa) = (1 : Int32) from by rw [cF, if_neg h37]] at J37
        exact J37
    show Steps p.tables e below (s₁.setTop (mkF m 45 #[.val (.int xa), .val (.int xb), .val (.int xc), .val (.int xd), .val (.int xe), .val (.int xf), .val (.int (lbF xa)), .val (.int (lbF xb)), .val (.int (lbF xc)), .val (.int (lbF xd)), .val (.int (lbF xe)), .val (.int (lbF xf)), .unset, .unset, .unset, .unset, .unset, .unset] [(.int (cF xa))])) _
    refine XS.istore X0.here hx rfl (hb hby at_45) rfl (l' := #[.val (.int xa), .val (.int xb), .val (.int xc), .val (.int xd), .val (.int xe), .val (.int xf), .val (.int (lbF xa)), .val (.int (lbF xb)), .val (.int (lbF xc)), .val (.int (lbF xd)), .val (.int (lbF xe)), .val (.int (lbF xf)), .val (.int (cF xa)), .unset, .unset, .unset, .unset, .unset]) rfl ?_
    show Steps p.tables e below (s₁.setTop (mkF m 47 #[.val (.int xa), .val (.int xb), .val (.int xc), .val (.int xd), .val (.int xe), .val (.int xf), .val (.int (lbF xa)), .val (.int (lbF xb)), .val (.int (lbF xc)), .val (.int (lbF xd)), .val (.int (lbF xe)), .val (.int (lbF xf)), .val (.int (cF xa)), .unset, .unset, .unset, .unset, .unset] [])) _
    refine XS.iloadN X0.here hx rfl (hb hby at_47) rfl ?_
    show Steps p.tables e below (s₁.setTop (mkF m 48 #[.val (.int xa), .val (.int xb), .val (.int xc), .val (.int xd), .val (.int xe), .val (.int xf), .val (.int (lbF xa)), .val (.int (lbF xb)), .val (.int (lbF xc)), .val (.int (lbF xd)), .val (.int (lbF xe)), .val (.int (lbF xf)), .val (.int (cF xa)), .unset, .unset, .unset, .unset, .unset] [(.int xb)])) _
    refine XS.iconst X0.here hx rfl (hb hby at_48) ?_
    show Steps p.tables e below (s₁.setTop (mkF m 49 #[.val (.int xa), .val (.int xb), .val (.int xc), .val (.int xd), .val (.int xe), .val (.int xf), .val (.int (lbF xa)), .val (.int (lbF xb)), .val (.int (lbF xc)), .val (.int (lbF xd)), .val (.int (lbF xe)), .val (.int (lbF xf)), .val (.int (cF xa)), .unset, .unset, .unset, .unset, .unset] [(.int (2 : Int32)), (.int xb)])) _
    refine XS.iushr X0.here hx rfl (hb hby at_49) rfl ?_
    show Steps p.tables e below (s₁.setTop (mkF m 50 #[.val (.int xa), .val (.int xb), .val (.int xc), .val (.int xd), .val (.int xe), .val (.int xf), .val (.int (lbF xa)), .val (.int (lbF xb)), .val (.int (lbF xc)), .val (.int (lbF xd)), .val (.int (lbF xe)), .val (.int (lbF xf)), .val (.int (cF xa)), .unset, .unset, .unset, .unset, .unset] [(.int ((xb.toUInt32 >>> ((2 : Int32) &&& 31).toUInt32).toInt32))])) _
    refine XS.iconst X0.here hx rfl (hb hby at_50) ?_
    show Steps p.tables e below (s₁.setTop (mkF m 51 #[.val (.int xa), .val (.int xb), .val (.int xc), .val (.int xd), .val (.int xe), .val (.int xf), .val (.int (lbF xa)), .val (.int (lbF xb)), .val (.int (lbF xc)), .val (.int (lbF xd)), .val (.int (lbF xe)), .val (.int (lbF xf)), .val (.int (cF xa)), .unset, .unset, .unset, .unset, .unset] [(.int (1 : Int32)), (.int ((xb.toUInt32 >>> ((2 : Int32) &&& 31).toUInt32).toInt32))])) _
    refine XS.iand X0.here hx rfl (hb hby at_51) rfl ?_
    show Steps p.tables e below (s₁.setTop (mkF m 52 #[.val (.int xa), .val (.int xb), .val (.int xc), .val (.int xd), .val (.int xe), .val (.int xf), .val (.int (lbF xa)), .val (.int (lbF xb)), .val (.int (lbF xc)), .val (.int (lbF xd)), .val (.int (lbF xe)), .val (.int (lbF xf)), .val (.int (cF xa)), .unset, .unset, .unset, .unset, .unset] [(.int (bitF xb))])) _
    suffices J52 : Steps p.tables e below (s₁.setTop (mkF m 60 #[.val (.int xa), .val (.int xb), .val (.int xc), .val (.int xd), .val (.int xe), .val (.int xf), .val (.int (lbF xa)), .val (.int (lbF xb)), .val (.int (lbF xc)), .val (.int (lbF xd)), .val (.int (lbF xe)), .val (.int (lbF xf)), .val (.int (cF xa)), .unset, .unset, .unset, .unset, .unset] [(.int (cF xb))])) (T15.setFrames fs) by
      by_cases h52 : (bitF xb) = (0 : Int32)
      · refine XS.ifYes X0.here hx rfl (pc0 := 52) (pc' := 59) rfl (hb hby at_52) rfl ((if0 _ _).trans (teq h52).1) (by decide) (by decide) ?_
        show Steps p.tables e below (s₁.setTop (mkF m 59 #[.val (.int xa), .val (.int xb), .val (.int xc), .val (.int xd), .val (.int xe), .val (.int xf), .val (.int (lbF xa)), .val (.int (lbF xb)), .val (.int (lbF xc)), .val (.int (lbF xd)), .val (.int (lbF xe)), .val (.int (lbF xf)), .val (.int (cF xa)), .unset, .unset, .unset, .unset, .unset] [])) _
        refine XS.iconst X0.here hx rfl (hb hby at_59) ?_
        show Steps p.tables e below (s₁.setTop (mkF m 60 #[.val (.int xa), .val (.int xb), .val (.int xc), .val (.int xd), .val (.int xe), .val (.int xf), .val (.int (lbF xa)), .val (.int (lbF xb)), .val (.int (lbF xc)), .val (.int (lbF xd)), .val (.int (lbF xe)), .val (.int (lbF xf)), .val (.int (cF xa)), .unset, .unset, .unset, .unset, .unset] [(.int (0 : Int32))])) _
        rw [show (cF xb) = (0 : Int32) from by rw [cF, if_pos h52]] at J52
        exact J52
      · refine XS.ifNo X0.here hx rfl (hb hby at_52) rfl ((if0 _ _).trans (feq h52).1) ?_
        show Steps p.tables e below (s₁.setTop (mkF m 55 #[.val (.int xa), .val (.int xb), .val (.int xc), .val (.int xd), .val (.int xe), .val (.int xf), .val (.int (lbF xa)), .val (.int (lbF xb)), .val (.int (lbF xc)), .val (.int (lbF xd)), .val (.int (lbF xe)), .val (.int (lbF xf)), .val (.int (cF xa)), .unset, .unset, .unset, .unset, .unset] [])) _
        refine XS.iconst X0.here hx rfl (hb hby at_55) ?_
        show Steps p.tables e below (s₁.setTop (mkF m 56 #[.val (.int xa), .val (.int xb), .val (.int xc), .val (.int xd), .val (.int xe), .val (.int xf), .val (.int (lbF xa)), .val (.int (lbF xb)), .val (.int (lbF xc)), .val (.int (lbF xd)), .val (.int (lbF xe)), .val (.int (lbF xf)), .val (.int (cF xa)), .unset, .unset, .unset, .unset, .unset] [(.int (1 : Int32))])) _
        refine XS.goto X0.here hx rfl (pc0 := 56) (pc' := 60) rfl (hb hby at_56) (by decide) (by decide) ?_
        show Steps p.tables e below (s₁.setTop (mkF m 60 #[.val (.int xa), .val (.int xb), .val (.int xc), .val (.int xd), .val (.int xe), .val (.int xf), .val (.int (lbF xa)), .val (.int (lbF xb)), .val (.int (lbF xc)), .val (.int (lbF xd)), .val (.int (lbF xe)), .val (.int (lbF xf)), .val (.int (cF xa)), .unset, .unset, .unset, .unset, .unset] [(.int (1 : Int32))])) _
        rw [show (cF xb) = (1 : Int32) from by rw [cF, if_neg h52]] at J52
        exact J52
    show Steps p.tables e below (s₁.setTop (mkF m 60 #[.val (.int xa), .val (.int xb), .val (.int xc), .val (.int xd), .val (.int xe), .val (.int xf), .val (.int (lbF xa)), .val (.int (lbF xb)), .val (.int (lbF xc)), .val (.int (lbF xd)), .val (.int (lbF xe)), .val (.int (lbF xf)), .val (.int (cF xa)), .unset, .unset, .unset, .unset, .unset] [(.int (cF xb))])) _
    refine XS.istore X0.here hx rfl (hb hby at_60) rfl (l' := #[.val (.int xa), .val (.int xb), .val (.int xc), .val (.int xd), .val (.int xe), .val (.int xf), .val (.int (lbF xa)), .val (.int (lbF xb)), .val (.int (lbF xc)), .val (.int (lbF xd)), .val (.int (lbF xe)), .val (.int (lbF xf)), .val (.int (cF xa)), .val (.int (cF xb)), .unset, .unset, .unset, .unset]) rfl ?_
    show Steps p.tables e below (s₁.setTop (mkF m 62 #[.val (.int xa), .val (.int xb), .val (.int xc), .val (.int xd), .val (.int xe), .val (.int xf), .val (.int (lbF xa)), .val (.int (lbF xb)), .val (.int (lbF xc)), .val (.int (lbF xd)), .val (.int (lbF xe)), .val (.int (lbF xf)), .val (.int (cF xa)), .val (.int (cF xb)), .unset, .unset, .unset, .unset] [])) _
    refine XS.iload X0.here hx rfl (hb hby at_62) rfl ?_
    show Steps p.tables e below (s₁.setTop (mkF m 64 #[.val (.int xa), .val (.int xb), .val (.int xc), .val (.int xd), .val (.int xe), .val (.int xf), .val (.int (lbF xa)), .val (.int (lbF xb)), .val (.int (lbF xc)), .val (.int (lbF xd)), .val (.int (lbF xe)), .val (.int (lbF xf)), .val (.int (cF xa)), .val (.int (cF xb)), .unset, .unset, .unset, .unset] [(.int xe)])) _
    refine XS.iconst X0.here hx rfl (hb hby at_64) ?_
    show Steps p.tables e below (s₁.setTop (mkF m 65 #[.val (.int xa), .val (.int xb), .val (.int xc), .val (.int xd), .val (.int xe), .val (.int xf), .val (.int (lbF xa)), .val (.int (lbF xb)), .val (.int (lbF xc)), .val (.int (lbF xd)), .val (.int (lbF xe)), .val (.int (lbF xf)), .val (.int (cF xa)), .val (.int (cF xb)), .unset, .unset, .unset, .unset] [(.int (2 : Int32)), (.int xe)])) _
    refine XS.iushr X0.here hx rfl (hb hby at_65) rfl ?_
    show Steps p.tables e below (s₁.setTop (mkF m 66 #[.val (.int xa), .val (.int xb), .val (.int xc), .val (.int xd), .val (.int xe), .val (.int xf), .val (.int (lbF xa)), .val (.int (lbF xb)), .val (.int (lbF xc)), .val (.int (lbF xd)), .val (.int (lbF xe)), .val (.int (lbF xf)), .val (.int (cF xa)), .val (.int (cF xb)), .unset, .unset, .unset, .unset] [(.int ((xe.toUInt32 >>> ((2 : Int32) &&& 31).toUInt32).toInt32))])) _
    refine XS.iconst X0.here hx rfl (hb hby at_66) ?_
    show Steps p.tables e below (s₁.setTop (mkF m 67 #[.val (.int xa), .val (.int xb), .val (.int xc), .val (.int xd), .val (.int xe), .val (.int xf), .val (.int (lbF xa)), .val (.int (lbF xb)), .val (.int (lbF xc)), .val (.int (lbF xd)), .val (.int (lbF xe)), .val (.int (lbF xf)), .val (.int (cF xa)), .val (.int (cF xb)), .unset, .unset, .unset, .unset] [(.int (1 : Int32)), (.int ((xe.toUInt32 >>> ((2 : Int32) &&& 31).toUInt32).toInt32))])) _
    refine XS.iand X0.here hx rfl (hb hby at_67) rfl ?_
    show Steps p.tables e below (s₁.setTop (mkF m 68 #[.val (.int xa), .val (.int xb), .val (.int xc), .val (.int xd), .val (.int xe), .val (.int xf), .val (.int (lbF xa)), .val (.int (lbF xb)), .val (.int (lbF xc)), .val (.int (lbF xd)), .val (.int (lbF xe)), .val (.int (lbF xf)), .val (.int (cF xa)), .val (.int (cF xb)), .unset, .unset, .unset, .unset] [(.int (bitF xe))])) _
    suffices J68 : Steps p.tables e below (s₁.setTop (mkF m 76 #[.val (.int xa), .val (.int xb), .val (.int xc), .val (.int xd), .val (.int xe), .val (.int xf), .val (.int (lbF xa)), .val (.int (lbF xb)), .val (.int (lbF xc)), .val (.int (lbF xd)), .val (.int (lbF xe)), .val (.int (lbF xf)), .val (.int (cF xa)), .val (.int (cF xb)), .unset, .unset, .unset, .unset] [(.int (cF xe))])) (T15.setFrames fs) by
      by_cases h68 : (bitF xe) = (0 : Int32)
      · refine XS.ifYes X0.here hx rfl (pc0 := 68) (pc' := 75) rfl (hb hby at_68) rfl ((if0 _ _).trans (teq h68).1) (by decide) (by decide) ?_
        show Steps p.tables e below (s₁.setTop (mkF m 75 #[.val (.int xa), .val (.int xb), .val (.int xc), .val (.int xd), .val (.int xe), .val (.int xf), .val (.int (lbF xa)), .val (.int (lbF xb)), .val (.int (lbF xc)), .val (.int (lbF xd)), .val (.int (lbF xe)), .val (.int (lbF xf)), .val (.int (cF xa)), .val (.int (cF xb)), .unset, .unset, .unset, .unset] [])) _
        refine XS.iconst X0.here hx rfl (hb hby at_75) ?_
        show Steps p.tables e below (s₁.setTop (mkF m 76 #[.val (.int xa), .val (.int xb), .val (.int xc), .val (.int xd), .val (.int xe), .val (.int xf), .val (.int (lbF xa)), .val (.int (lbF xb)), .val (.int (lbF xc)), .val (.int (lbF xd)), .val (.int (lbF xe)), .val (.int (lbF xf)), .val (.int (cF xa)), .val (.int (cF xb)), .unset, .unset, .unset, .unset] [(.int (0 : Int32))])) _
        rw [show (cF xe) = (0 : Int32) from by rw [cF, if_pos h68]] at J68
        exact J68
      · refine XS.ifNo X0.here hx rfl (hb hby at_68) rfl ((if0 _ _).trans (feq h68).1) ?_
        show Steps p.tables e below (s₁.setTop (mkF m 71 #[.val (.int xa), .val (.int xb), .val (.int xc), .val (.int xd), .val (.int xe), .val (.int xf), .val (.int (lbF xa)), .val (.int (lbF xb)), .val (.int (lbF xc)), .val (.int (lbF xd)), .val (.int (lbF xe)), .val (.int (lbF xf)), .val (.int (cF xa)), .val (.int (cF xb)), .unset, .unset, .unset, .unset] [])) _
        refine XS.iconst X0.here hx rfl (hb hby at_71) ?_
        show Steps p.tables e below (s₁.setTop (mkF m 72 #[.val (.int xa), .val (.int xb), .val (.int xc), .val (.int xd), .val (.int xe), .val (.int xf), .val (.int (lbF xa)), .val (.int (lbF xb)), .val (.int (lbF xc)), .val (.int (lbF xd)), .val (.int (lbF xe)), .val (.int (lbF xf)), .val (.int (cF xa)), .val (.int (cF xb)), .unset, .unset, .unset, .unset] [(.int (1 : Int32))])) _
        refine XS.goto X0.here hx rfl (pc0 := 72) (pc' := 76) rfl (hb hby at_72) (by decide) (by decide) ?_
        show Steps p.tables e below (s₁.setTop (mkF m 76 #[.val (.int xa), .val (.int xb), .val (.int xc), .val (.int xd), .val (.int xe), .val (.int xf), .val (.int (lbF xa)), .val (.int (lbF xb)), .val (.int (lbF xc)), .val (.int (lbF xd)), .val (.int (lbF xe)), .val (.int (lbF xf)), .val (.int (cF xa)), .val (.int (cF xb)), .unset, .unset, .unset, .unset] [(.int (1 : Int32))])) _
        rw [show (cF xe) = (1 : Int32) from by rw [cF, if_neg h68]] at J68
        exact J68
    show Steps p.tables e below (s₁.setTop (mkF m 76 #[.val (.int xa), .val (.int xb), .val (.int xc), .val (.int xd), .val (.int xe), .val (.int xf), .val (.int (lbF xa)), .val (.int (lbF xb)), .val (.int (lbF xc)), .val (.int (lbF xd)), .val (.int (lbF xe)), .val (.int (lbF xf)), .val (.int (cF xa)), .val (.int (cF xb)), .unset, .unset, .unset, .unset] [(.int (cF xe))])) _
    refine XS.istore X0.here hx rfl (hb hby at_76) rfl (l' := #[.val (.int xa), .val (.int xb), .val (.int xc), .val (.int xd), .val (.int xe), .val (.int xf), .val (.int (lbF xa)), .val (.int (lbF xb)), .val (.int (lbF xc)), .val (.int (lbF xd)), .val (.int (lbF xe)), .val (.int (lbF xf)), .val (.int (cF xa)), .val (.int (cF xb)), .val (.int (cF xe)), .unset, .unset, .unset]) rfl ?_
    show Steps p.tables e below (s₁.setTop (mkF m 78 #[.val (.int xa), .val (.int xb), .val (.int xc), .val (.int xd), .val (.int xe), .val (.int xf), .val (.int (lbF xa)), .val (.int (lbF xb)), .val (.int (lbF xc)), .val (.int (lbF xd)), .val (.int (lbF xe)), .val (.int (lbF xf)), .val (.int (cF xa)), .val (.int (cF xb)), .val (.int (cF xe)), .unset, .unset, .unset] [])) _
    refine st1 _ ?_
    show Steps p.tables e below (T1.setTop (mkF m 81 #[.val (.int xa), .val (.int xb), .val (.int xc), .val (.int xd), .val (.int xe), .val (.int xf), .val (.int (lbF xa)), .val (.int (lbF xb)), .val (.int (lbF xc)), .val (.int (lbF xd)), .val (.int (lbF xe)), .val (.int (lbF xf)), .val (.int (cF xa)), .val (.int (cF xb)), .val (.int (cF xe)), .unset, .unset, .unset] [(.ref b1)])) _
    refine XS.dup X1.here hx rfl (hb hby at_81) rfl rfl ?_
    show Steps p.tables e below (T1.setTop (mkF m 82 #[.val (.int xa), .val (.int xb), .val (.int xc), .val (.int xd), .val (.int xe), .val (.int xf), .val (.int (lbF xa)), .val (.int (lbF xb)), .val (.int (lbF xc)), .val (.int (lbF xd)), .val (.int (lbF xe)), .val (.int (lbF xf)), .val (.int (cF xa)), .val (.int (cF xb)), .val (.int (cF xe)), .unset, .unset, .unset] [(.ref b1), (.ref b1)])) _
    refine st2.trans ?_
    show Steps p.tables e below (T2.setTop (mkF m 85 #[.val (.int xa), .val (.int xb), .val (.int xc), .val (.int xd), .val (.int xe), .val (.int xf), .val (.int (lbF xa)), .val (.int (lbF xb)), .val (.int (lbF xc)), .val (.int (lbF xd)), .val (.int (lbF xe)), .val (.int (lbF xf)), .val (.int (cF xa)), .val (.int (cF xb)), .val (.int (cF xe)), .unset, .unset, .unset] [(.ref b1)])) _
    refine XS.astore X2.here hx rfl (hb hby at_85) rfl rfl (l' := #[.val (.int xa), .val (.int xb), .val (.int xc), .val (.int xd), .val (.int xe), .val (.int xf), .val (.int (lbF xa)), .val (.int (lbF xb)), .val (.int (lbF xc)), .val (.int (lbF xd)), .val (.int (lbF xe)), .val (.int (lbF xf)), .val (.int (cF xa)), .val (.int (cF xb)), .val (.int (cF xe)), .val (.ref b1), .unset, .unset]) rfl ?_
    show Steps p.tables e below (T2.setTop (mkF m 87 #[.val (.int xa), .val (.int xb), .val (.int xc), .val (.int xd), .val (.int xe), .val (.int xf), .val (.int (lbF xa)), .val (.int (lbF xb)), .val (.int (lbF xc)), .val (.int (lbF xd)), .val (.int (lbF xe)), .val (.int (lbF xf)), .val (.int (cF xa)), .val (.int (cF xb)), .val (.int (cF xe)), .val (.ref b1), .unset, .unset] [])) _
    refine XS.aload X2.here hx rfl (hb hby at_87) rfl rfl ?_
    show Steps p.tables e below (T2.setTop (mkF m 89 #[.val (.int xa), .val (.int xb), .val (.int xc), .val (.int xd), .val (.int xe), .val (.int xf), .val (.int (lbF xa)), .val (.int (lbF xb)), .val (.int (lbF xc)), .val (.int (lbF xd)), .val (.int (lbF xe)), .val (.int (lbF xf)), .val (.int (cF xa)), .val (.int (cF xb)), .val (.int (cF xe)), .val (.ref b1), .unset, .unset] [(.ref b1)])) _
    refine XS.iload X2.here hx rfl (hb hby at_89) rfl ?_
    show Steps p.tables e below (T2.setTop (mkF m 91 #[.val (.int xa), .val (.int xb), .val (.int xc), .val (.int xd), .val (.int xe), .val (.int xf), .val (.int (lbF xa)), .val (.int (lbF xb)), .val (.int (lbF xc)), .val (.int (lbF xd)), .val (.int (lbF xe)), .val (.int (lbF xf)), .val (.int (cF xa)), .val (.int (cF xb)), .val (.int (cF xe)), .val (.ref b1), .unset, .unset] [(.int (lbF xa)), (.ref b1)])) _
    refine st3.trans ?_
    show Steps p.tables e below (T3.setTop (mkF m 94 #[.val (.int xa), .val (.int xb), .val (.int xc), .val (.int xd), .val (.int xe), .val (.int xf), .val (.int (lbF xa)), .val (.int (lbF xb)), .val (.int (lbF xc)), .val (.int (lbF xd)), .val (.int (lbF xe)), .val (.int (lbF xf)), .val (.int (cF xa)), .val (.int (cF xb)), .val (.int (cF xe)), .val (.ref b1), .unset, .unset] [(.int (nextR initS (lbF xa)))])) _
    refine XS.iconst X3.here hx rfl (hb hby at_94) ?_
    show Steps p.tables e below (T3.setTop (mkF m 95 #[.val (.int xa), .val (.int xb), .val (.int xc), .val (.int xd), .val (.int xe), .val (.int xf), .val (.int (lbF xa)), .val (.int (lbF xb)), .val (.int (lbF xc)), .val (.int (lbF xd)), .val (.int (lbF xe)), .val (.int (lbF xf)), .val (.int (cF xa)), .val (.int (cF xb)), .val (.int (cF xe)), .val (.ref b1), .unset, .unset] [(.int (1 : Int32)), (.int (nextR initS (lbF xa)))])) _
    suffices J95 : Steps p.tables e below (T3.setTop (mkF m 103 #[.val (.int xa), .val (.int xb), .val (.int xc), .val (.int xd), .val (.int xe), .val (.int xf), .val (.int (lbF xa)), .val (.int (lbF xb)), .val (.int (lbF xc)), .val (.int (lbF xd)), .val (.int (lbF xe)), .val (.int (lbF xf)), .val (.int (cF xa)), .val (.int (cF xb)), .val (.int (cF xe)), .val (.ref b1), .unset, .unset] [(.int (eqF (nextR initS (lbF xa)) (1 : Int32)))])) (T15.setFrames fs) by
      by_cases h95 : (nextR initS (lbF xa)) = (1 : Int32)
      · refine XS.icmpNo X3.here hx rfl (hb hby at_95) rfl (teq h95).2 ?_
        show Steps p.tables e below (T3.setTop (mkF m 98 #[.val (.int xa), .val (.int xb), .val (.int xc), .val (.int xd), .val (.int xe), .val (.int xf), .val (.int (lbF xa)), .val (.int (lbF xb)), .val (.int (lbF xc)), .val (.int (lbF xd)), .val (.int (lbF xe)), .val (.int (lbF xf)), .val (.int (cF xa)), .val (.int (cF xb)), .val (.int (cF xe)), .val (.ref b1), .unset, .unset] [])) _
        refine XS.iconst X3.here hx rfl (hb hby at_98) ?_
        show Steps p.tables e below (T3.setTop (mkF m 99 #[.val (.int xa), .val (.int xb), .val (.int xc), .val (.int xd), .val (.int xe), .val (.int xf), .val (.int (lbF xa)), .val (.int (lbF xb)), .val (.int (lbF xc)), .val (.int (lbF xd)), .val (.int (lbF xe)), .val (.int (lbF xf)), .val (.int (cF xa)), .val (.int (cF xb)), .val (.int (cF xe)), .val (.ref b1), .unset, .unset] [(.int (1 : Int32))])) _
        refine XS.goto X3.here hx rfl (pc0 := 99) (pc' := 103) rfl (hb hby at_99) (by decide) (by decide) ?_
        show Steps p.tables e below (T3.setTop (mkF m 103 #[.val (.int xa), .val (.int xb), .val (.int xc), .val (.int xd), .val (.int xe), .val (.int xf), .val (.int (lbF xa)), .val (.int (lbF xb)), .val (.int (lbF xc)), .val (.int (lbF xd)), .val (.int (lbF xe)), .val (.int (lbF xf)), .val (.int (cF xa)), .val (.int (cF xb)), .val (.int (cF xe)), .val (.ref b1), .unset, .unset] [(.int (1 : Int32))])) _
        rw [show (eqF (nextR initS (lbF xa)) (1 : Int32)) = (1 : Int32) from by rw [eqF, if_pos h95]] at J95
        exact J95
      · refine XS.icmpYes X3.here hx rfl (pc0 := 95) (pc' := 102) rfl (hb hby at_95) rfl (feq h95).2 (by decide) (by decide) ?_
        show Steps p.tables e below (T3.setTop (mkF m 102 #[.val (.int xa), .val (.int xb), .val (.int xc), .val (.int xd), .val (.int xe), .val (.int xf), .val (.int (lbF xa)), .val (.int (lbF xb)), .val (.int (lbF xc)), .val (.int (lbF xd)), .val (.int (lbF xe)), .val (.int (lbF xf)), .val (.int (cF xa)), .val (.int (cF xb)), .val (.int (cF xe)), .val (.ref b1), .unset, .unset] [])) _
        refine XS.iconst X3.here hx rfl (hb hby at_102) ?_
        show Steps p.tables e below (T3.setTop (mkF m 103 #[.val (.int xa), .val (.int xb), .val (.int xc), .val (.int xd), .val (.int xe), .val (.int xf), .val (.int (lbF xa)), .val (.int (lbF xb)), .val (.int (lbF xc)), .val (.int (lbF xd)), .val (.int (lbF xe)), .val (.int (lbF xf)), .val (.int (cF xa)), .val (.int (cF xb)), .val (.int (cF xe)), .val (.ref b1), .unset, .unset] [(.int (0 : Int32))])) _
        rw [show (eqF (nextR initS (lbF xa)) (1 : Int32)) = (0 : Int32) from by rw [eqF, if_neg h95]] at J95
        exact J95
    show Steps p.tables e below (T3.setTop (mkF m 103 #[.val (.int xa), .val (.int xb), .val (.int xc), .val (.int xd), .val (.int xe), .val (.int xf), .val (.int (lbF xa)), .val (.int (lbF xb)), .val (.int (lbF xc)), .val (.int (lbF xd)), .val (.int (lbF xe)), .val (.int (lbF xf)), .val (.int (cF xa)), .val (.int (cF xb)), .val (.int (cF xe)), .val (.ref b1), .unset, .unset] [(.int (eqF (nextR initS (lbF xa)) (1 : Int32)))])) _
    refine XS.istore X3.here hx rfl (hb hby at_103) rfl (l' := #[.val (.int xa), .val (.int xb), .val (.int xc), .val (.int xd), .val (.int xe), .val (.int xf), .val (.int (lbF xa)), .val (.int (lbF xb)), .val (.int (lbF xc)), .val (.int (lbF xd)), .val (.int (lbF xe)), .val (.int (lbF xf)), .val (.int (cF xa)), .val (.int (cF xb)), .val (.int (cF xe)), .val (.ref b1), .val (.int (eqF (nextR initS (lbF xa)) (1 : Int32))), .unset]) rfl ?_
    show Steps p.tables e below (T3.setTop (mkF m 105 #[.val (.int xa), .val (.int xb), .val (.int xc), .val (.int xd), .val (.int xe), .val (.int xf), .val (.int (lbF xa)), .val (.int (lbF xb)), .val (.int (lbF xc)), .val (.int (lbF xd)), .val (.int (lbF xe)), .val (.int (lbF xf)), .val (.int (cF xa)), .val (.int (cF xb)), .val (.int (cF xe)), .val (.ref b1), .val (.int (eqF (nextR initS (lbF xa)) (1 : Int32))), .unset] [])) _
    refine XS.aload X3.here hx rfl (hb hby at_105) rfl rfl ?_
    show Steps p.tables e below (T3.setTop (mkF m 107 #[.val (.int xa), .val (.int xb), .val (.int xc), .val (.int xd), .val (.int xe), .val (.int xf), .val (.int (lbF xa)), .val (.int (lbF xb)), .val (.int (lbF xc)), .val (.int (lbF xd)), .val (.int (lbF xe)), .val (.int (lbF xf)), .val (.int (cF xa)), .val (.int (cF xb)), .val (.int (cF xe)), .val (.ref b1), .val (.int (eqF (nextR initS (lbF xa)) (1 : Int32))), .unset] [(.ref b1)])) _
    refine st4.trans ?_
    show Steps p.tables e below (T4.setTop (mkF m 110 #[.val (.int xa), .val (.int xb), .val (.int xc), .val (.int xd), .val (.int xe), .val (.int xf), .val (.int (lbF xa)), .val (.int (lbF xb)), .val (.int (lbF xc)), .val (.int (lbF xd)), .val (.int (lbF xe)), .val (.int (lbF xf)), .val (.int (cF xa)), .val (.int (cF xb)), .val (.int (cF xe)), .val (.ref b1), .val (.int (eqF (nextR initS (lbF xa)) (1 : Int32))), .unset] [])) _
    refine st6 _ ?_
    show Steps p.tables e below (T6.setTop (mkF m 136 #[.val (.int xa), .val (.int xb), .val (.int xc), .val (.int xd), .val (.int xe), .val (.int xf), .val (.int (lbF xa)), .val (.int (lbF xb)), .val (.int (lbF xc)), .val (.int (lbF xd)), .val (.int (lbF xe)), .val (.int (lbF xf)), .val (.int (cF xa)), .val (.int (cF xb)), .val (.int (cF xe)), .val (.ref b1), .val (.int (cndR (cF xa) (eqF (nextR initS (lbF xa)) (1 : Int32)) (sg1 (lbF xa)) (lbF xb) (1 : Int32))), .unset] [])) _
    refine st8 _ ?_
    show Steps p.tables e below (T8.setTop (mkF m 178 #[.val (.int xa), .val (.int xb), .val (.int xc), .val (.int xd), .val (.int xe), .val (.int xf), .val (.int (lbF xa)), .val (.int (lbF xb)), .val (.int (lbF xc)), .val (.int (lbF xd)), .val (.int (lbF xe)), .val (.int (lbF xf)), .val (.int (cF xa)), .val (.int (cF xb)), .val (.int (cF xe)), .val (.ref b1), .val (.int (ok1 (lbF xa) (cF xa) (lbF xb) (cF xb) (lbF xc))), .unset] [])) _
    refine XS.aload X8.here hx rfl (hb hby at_178) rfl rfl ?_
    show Steps p.tables e below (T8.setTop (mkF m 180 #[.val (.int xa), .val (.int xb), .val (.int xc), .val (.int xd), .val (.int xe), .val (.int xf), .val (.int (lbF xa)), .val (.int (lbF xb)), .val (.int (lbF xc)), .val (.int (lbF xd)), .val (.int (lbF xe)), .val (.int (lbF xf)), .val (.int (cF xa)), .val (.int (cF xb)), .val (.int (cF xe)), .val (.ref b1), .val (.int (ok1 (lbF xa) (cF xa) (lbF xb) (cF xb) (lbF xc))), .unset] [(.ref b1)])) _
    refine st9.trans ?_
    show Steps p.tables e below (T9.setTop (mkF m 183 #[.val (.int xa), .val (.int xb), .val (.int xc), .val (.int xd), .val (.int xe), .val (.int xf), .val (.int (lbF xa)), .val (.int (lbF xb)), .val (.int (lbF xc)), .val (.int (lbF xd)), .val (.int (lbF xe)), .val (.int (lbF xf)), .val (.int (cF xa)), .val (.int (cF xb)), .val (.int (cF xe)), .val (.ref b1), .val (.int (ok1 (lbF xa) (cF xa) (lbF xb) (cF xb) (lbF xc))), .unset] [])) _
    refine XS.iload X9.here hx rfl (hb hby at_183) rfl ?_
    show Steps p.tables e below (T9.setTop (mkF m 185 #[.val (.int xa), .val (.int xb), .val (.int xc), .val (.int xd), .val (.int xe), .val (.int xf), .val (.int (lbF xa)), .val (.int (lbF xb)), .val (.int (lbF xc)), .val (.int (lbF xd)), .val (.int (lbF xe)), .val (.int (lbF xf)), .val (.int (cF xa)), .val (.int (cF xb)), .val (.int (cF xe)), .val (.ref b1), .val (.int (ok1 (lbF xa) (cF xa) (lbF xb) (cF xb) (lbF xc))), .unset] [(.int (ok1 (lbF xa) (cF xa) (lbF xb) (cF xb) (lbF xc)))])) _
    refine XS.aload X9.here hx rfl (hb hby at_185) rfl rfl ?_
    show Steps p.tables e below (T9.setTop (mkF m 187 #[.val (.int xa), .val (.int xb), .val (.int xc), .val (.int xd), .val (.int xe), .val (.int xf), .val (.int (lbF xa)), .val (.int (lbF xb)), .val (.int (lbF xc)), .val (.int (lbF xd)), .val (.int (lbF xe)), .val (.int (lbF xf)), .val (.int (cF xa)), .val (.int (cF xb)), .val (.int (cF xe)), .val (.ref b1), .val (.int (ok1 (lbF xa) (cF xa) (lbF xb) (cF xb) (lbF xc))), .unset] [(.ref b1), (.int (ok1 (lbF xa) (cF xa) (lbF xb) (cF xb) (lbF xc)))])) _
    refine XS.iload X9.here hx rfl (hb hby at_187) rfl ?_
    show Steps p.tables e below (T9.setTop (mkF m 189 #[.val (.int xa), .val (.int xb), .val (.int xc), .val (.int xd), .val (.int xe), .val (.int xf), .val (.int (lbF xa)), .val (.int (lbF xb)), .val (.int (lbF xc)), .val (.int (lbF xd)), .val (.int (lbF xe)), .val (.int (lbF xf)), .val (.int (cF xa)), .val (.int (cF xb)), .val (.int (cF xe)), .val (.ref b1), .val (.int (ok1 (lbF xa) (cF xa) (lbF xb) (cF xb) (lbF xc))), .unset] [(.int (lbF xd)), (.ref b1), (.int (ok1 (lbF xa) (cF xa) (lbF xb) (cF xb) (lbF xc)))])) _
    refine st10.trans ?_
    show Steps p.tables e below (T10.setTop (mkF m 192 #[.val (.int xa), .val (.int xb), .val (.int xc), .val (.int xd), .val (.int xe), .val (.int xf), .val (.int (lbF xa)), .val (.int (lbF xb)), .val (.int (lbF xc)), .val (.int (lbF xd)), .val (.int (lbF xe)), .val (.int (lbF xf)), .val (.int (cF xa)), .val (.int (cF xb)), .val (.int (cF xe)), .val (.ref b1), .val (.int (ok1 (lbF xa) (cF xa) (lbF xb) (cF xb) (lbF xc))), .unset] [(.int (nextR (closeS (sg2 (lbF xa) (cF xa) (lbF xb) (cF xb) (lbF xc))) (lbF xd))), (.int (ok1 (lbF xa) (cF xa) (lbF xb) (cF xb) (lbF xc)))])) _
    refine XS.iload X10.here hx rfl (hb hby at_192) rfl ?_
    show Steps p.tables e below (T10.setTop (mkF m 194 #[.val (.int xa), .val (.int xb), .val (.int xc), .val (.int xd), .val (.int xe), .val (.int xf), .val (.int (lbF xa)), .val (.int (lbF xb)), .val (.int (lbF xc)), .val (.int (lbF xd)), .val (.int (lbF xe)), .val (.int (lbF xf)), .val (.int (cF xa)), .val (.int (cF xb)), .val (.int (cF xe)), .val (.ref b1), .val (.int (ok1 (lbF xa) (cF xa) (lbF xb) (cF xb) (lbF xc))), .unset] [(.int (lbF xd)), (.int (nextR (closeS (sg2 (lbF xa) (cF xa) (lbF xb) (cF xb) (lbF xc))) (lbF xd))), (.int (ok1 (lbF xa) (cF xa) (lbF xb) (cF xb) (lbF xc)))])) _
    refine XS.iload X10.here hx rfl (hb hby at_194) rfl ?_
    show Steps p.tables e below (T10.setTop (mkF m 196 #[.val (.int xa), .val (.int xb), .val (.int xc), .val (.int xd), .val (.int xe), .val (.int xf), .val (.int (lbF xa)), .val (.int (lbF xb)), .val (.int (lbF xc)), .val (.int (lbF xd)), .val (.int (lbF xe)), .val (.int (lbF xf)), .val (.int (cF xa)), .val (.int (cF xb)), .val (.int (cF xe)), .val (.ref b1), .val (.int (ok1 (lbF xa) (cF xa) (lbF xb) (cF xb) (lbF xc))), .unset] [(.int (lbF xa)), (.int (lbF xd)), (.int (nextR (closeS (sg2 (lbF xa) (cF xa) (lbF xb) (cF xb) (lbF xc))) (lbF xd))), (.int (ok1 (lbF xa) (cF xa) (lbF xb) (cF xb) (lbF xc)))])) _
    suffices J196 : Steps p.tables e below (T10.setTop (mkF m 204 #[.val (.int xa), .val (.int xb), .val (.int xc), .val (.int xd), .val (.int xe), .val (.int xf), .val (.int (lbF xa)), .val (.int (lbF xb)), .val (.int (lbF xc)), .val (.int (lbF xd)), .val (.int (lbF xe)), .val (.int (lbF xf)), .val (.int (cF xa)), .val (.int (cF xb)), .val (.int (cF xe)), .val (.ref b1), .val (.int (ok1 (lbF xa) (cF xa) (lbF xb) (cF xb) (lbF xc))), .unset] [(.int (w3F (lbF xd) (lbF xa))), (.int (nextR (closeS (sg2 (lbF xa) (cF xa) (lbF xb) (cF xb) (lbF xc))) (lbF xd))), (.int (ok1 (lbF xa) (cF xa) (lbF xb) (cF xb) (lbF xc)))])) (T15.setFrames fs) by
      by_cases h196 : (lbF xd) = (lbF xa)
      · refine XS.icmpNo X10.here hx rfl (hb hby at_196) rfl (teq h196).2 ?_
        show Steps p.tables e below (T10.setTop (mkF m 199 #[.val (.int xa), .val (.int xb), .val (.int xc), .val (.int xd), .val (.int xe), .val (.int xf), .val (.int (lbF xa)), .val (.int (lbF xb)), .val (.int (lbF xc)), .val (.int (lbF xd)), .val (.int (lbF xe)), .val (.int (lbF xf)), .val (.int (cF xa)), .val (.int (cF xb)), .val (.int (cF xe)), .val (.ref b1), .val (.int (ok1 (lbF xa) (cF xa) (lbF xb) (cF xb) (lbF xc))), .unset] [(.int (nextR (closeS (sg2 (lbF xa) (cF xa) (lbF xb) (cF xb) (lbF xc))) (lbF xd))), (.int (ok1 (lbF xa) (cF xa) (lbF xb) (cF xb) (lbF xc)))])) _
        refine XS.iconst X10.here hx rfl (hb hby at_199) ?_
        show Steps p.tables e below (T10.setTop (mkF m 200 #[.val (.int xa), .val (.int xb), .val (.int xc), .val (.int xd), .val (.int xe), .val (.int xf), .val (.int (lbF xa)), .val (.int (lbF xb)), .val (.int (lbF xc)), .val (.int (lbF xd)), .val (.int (lbF xe)), .val (.int (lbF xf)), .val (.int (cF xa)), .val (.int (cF xb)), .val (.int (cF xe)), .val (.ref b1), .val (.int (ok1 (lbF xa) (cF xa) (lbF xb) (cF xb) (lbF xc))), .unset] [(.int (2 : Int32)), (.int (nextR (closeS (sg2 (lbF xa) (cF xa) (lbF xb) (cF xb) (lbF xc))) (lbF xd))), (.int (ok1 (lbF xa) (cF xa) (lbF xb) (cF xb) (lbF xc)))])) _
        refine XS.goto X10.here hx rfl (pc0 := 200) (pc' := 204) rfl (hb hby at_200) (by decide) (by decide) ?_
        show Steps p.tables e below (T10.setTop (mkF m 204 #[.val (.int xa), .val (.int xb), .val (.int xc), .val (.int xd), .val (.int xe), .val (.int xf), .val (.int (lbF xa)), .val (.int (lbF xb)), .val (.int (lbF xc)), .val (.int (lbF xd)), .val (.int (lbF xe)), .val (.int (lbF xf)), .val (.int (cF xa)), .val (.int (cF xb)), .val (.int (cF xe)), .val (.ref b1), .val (.int (ok1 (lbF xa) (cF xa) (lbF xb) (cF xb) (lbF xc))), .unset] [(.int (2 : Int32)), (.int (nextR (closeS (sg2 (lbF xa) (cF xa) (lbF xb) (cF xb) (lbF xc))) (lbF xd))), (.int (ok1 (lbF xa) (cF xa) (lbF xb) (cF xb) (lbF xc)))])) _
        rw [show (w3F (lbF xd) (lbF xa)) = (2 : Int32) from by rw [w3F, if_pos h196]] at J196
        exact J196
      · refine XS.icmpYes X10.here hx rfl (pc0 := 196) (pc' := 203) rfl (hb hby at_196) rfl (feq h196).2 (by decide) (by decide) ?_
        show Steps p.tables e below (T10.setTop (mkF m 203 #[.val (.int xa), .val (.int xb), .val (.int xc), .val (.int xd), .val (.int xe), .val (.int xf), .val (.int (lbF xa)), .val (.int (lbF xb)), .val (.int (lbF xc)), .val (.int (lbF xd)), .val (.int (lbF xe)), .val (.int (lbF xf)), .val (.int (cF xa)), .val (.int (cF xb)), .val (.int (cF xe)), .val (.ref b1), .val (.int (ok1 (lbF xa) (cF xa) (lbF xb) (cF xb) (lbF xc))), .unset] [(.int (nextR (closeS (sg2 (lbF xa) (cF xa) (lbF xb) (cF xb) (lbF xc))) (lbF xd))), (.int (ok1 (lbF xa) (cF xa) (lbF xb) (cF xb) (lbF xc)))])) _
        refine XS.iconst X10.here hx rfl (hb hby at_203) ?_
        show Steps p.tables e below (T10.setTop (mkF m 204 #[.val (.int xa), .val (.int xb), .val (.int xc), .val (.int xd), .val (.int xe), .val (.int xf), .val (.int (lbF xa)), .val (.int (lbF xb)), .val (.int (lbF xc)), .val (.int (lbF xd)), .val (.int (lbF xe)), .val (.int (lbF xf)), .val (.int (cF xa)), .val (.int (cF xb)), .val (.int (cF xe)), .val (.ref b1), .val (.int (ok1 (lbF xa) (cF xa) (lbF xb) (cF xb) (lbF xc))), .unset] [(.int (1 : Int32)), (.int (nextR (closeS (sg2 (lbF xa) (cF xa) (lbF xb) (cF xb) (lbF xc))) (lbF xd))), (.int (ok1 (lbF xa) (cF xa) (lbF xb) (cF xb) (lbF xc)))])) _
        rw [show (w3F (lbF xd) (lbF xa)) = (1 : Int32) from by rw [w3F, if_neg h196]] at J196
        exact J196
    show Steps p.tables e below (T10.setTop (mkF m 204 #[.val (.int xa), .val (.int xb), .val (.int xc), .val (.int xd), .val (.int xe), .val (.int xf), .val (.int (lbF xa)), .val (.int (lbF xb)), .val (.int (lbF xc)), .val (.int (lbF xd)), .val (.int (lbF xe)), .val (.int (lbF xf)), .val (.int (cF xa)), .val (.int (cF xb)), .val (.int (cF xe)), .val (.ref b1), .val (.int (ok1 (lbF xa) (cF xa) (lbF xb) (cF xb) (lbF xc))), .unset] [(.int (w3F (lbF xd) (lbF xa))), (.int (nextR (closeS (sg2 (lbF xa) (cF xa) (lbF xb) (cF xb) (lbF xc))) (lbF xd))), (.int (ok1 (lbF xa) (cF xa) (lbF xb) (cF xb) (lbF xc)))])) _
    suffices J204 : Steps p.tables e below (T10.setTop (mkF m 212 #[.val (.int xa), .val (.int xb), .val (.int xc), .val (.int xd), .val (.int xe), .val (.int xf), .val (.int (lbF xa)), .val (.int (lbF xb)), .val (.int (lbF xc)), .val (.int (lbF xd)), .val (.int (lbF xe)), .val (.int (lbF xf)), .val (.int (cF xa)), .val (.int (cF xb)), .val (.int (cF xe)), .val (.ref b1), .val (.int (ok1 (lbF xa) (cF xa) (lbF xb) (cF xb) (lbF xc))), .unset] [(.int (eqF (nextR (closeS (sg2 (lbF xa) (cF xa) (lbF xb) (cF xb) (lbF xc))) (lbF xd)) (w3F (lbF xd) (lbF xa)))), (.int (ok1 (lbF xa) (cF xa) (lbF xb) (cF xb) (lbF xc)))])) (T15.setFrames fs) by
      by_cases h204 : (nextR (closeS (sg2 (lbF xa) (cF xa) (lbF xb) (cF xb) (lbF xc))) (lbF xd)) = (w3F (lbF xd) (lbF xa))
      · refine XS.icmpNo X10.here hx rfl (hb hby at_204) rfl (teq h204).2 ?_
        show Steps p.tables e below (T10.setTop (mkF m 207 #[.val (.int xa), .val (.int xb), .val (.int xc), .val (.int xd), .val (.int xe), .val (.int xf), .val (.int (lbF xa)), .val (.int (lbF xb)), .val (.int (lbF xc)), .val (.int (lbF xd)), .val (.int (lbF xe)), .val (.int (lbF xf)), .val (.int (cF xa)), .val (.int (cF xb)), .val (.int (cF xe)), .val (.ref b1), .val (.int (ok1 (lbF xa) (cF xa) (lbF xb) (cF xb) (lbF xc))), .unset] [(.int (ok1 (lbF xa) (cF xa) (lbF xb) (cF xb) (lbF xc)))])) _
        refine XS.iconst X10.here hx rfl (hb hby at_207) ?_
        show Steps p.tables e below (T10.setTop (mkF m 208 #[.val (.int xa), .val (.int xb), .val (.int xc), .val (.int xd), .val (.int xe), .val (.int xf), .val (.int (lbF xa)), .val (.int (lbF xb)), .val (.int (lbF xc)), .val (.int (lbF xd)), .val (.int (lbF xe)), .val (.int (lbF xf)), .val (.int (cF xa)), .val (.int (cF xb)), .val (.int (cF xe)), .val (.ref b1), .val (.int (ok1 (lbF xa) (cF xa) (lbF xb) (cF xb) (lbF xc))), .unset] [(.int (1 : Int32)), (.int (ok1 (lbF xa) (cF xa) (lbF xb) (cF xb) (lbF xc)))])) _
        refine XS.goto X10.here hx rfl (pc0 := 208) (pc' := 212) rfl (hb hby at_208) (by decide) (by decide) ?_
        show Steps p.tables e below (T10.setTop (mkF m 212 #[.val (.int xa), .val (.int xb), .val (.int xc), .val (.int xd), .val (.int xe), .val (.int xf), .val (.int (lbF xa)), .val (.int (lbF xb)), .val (.int (lbF xc)), .val (.int (lbF xd)), .val (.int (lbF xe)), .val (.int (lbF xf)), .val (.int (cF xa)), .val (.int (cF xb)), .val (.int (cF xe)), .val (.ref b1), .val (.int (ok1 (lbF xa) (cF xa) (lbF xb) (cF xb) (lbF xc))), .unset] [(.int (1 : Int32)), (.int (ok1 (lbF xa) (cF xa) (lbF xb) (cF xb) (lbF xc)))])) _
        rw [show (eqF (nextR (closeS (sg2 (lbF xa) (cF xa) (lbF xb) (cF xb) (lbF xc))) (lbF xd)) (w3F (lbF xd) (lbF xa))) = (1 : Int32) from by rw [eqF, if_pos h204]] at J204
        exact J204
      · refine XS.icmpYes X10.here hx rfl (pc0 := 204) (pc' := 211) rfl (hb hby at_204) rfl (feq h204).2 (by decide) (by decide) ?_
        show Steps p.tables e below (T10.setTop (mkF m 211 #[.val (.int xa), .val (.int xb), .val (.int xc), .val (.int xd), .val (.int xe), .val (.int xf), .val (.int (lbF xa)), .val (.int (lbF xb)), .val (.int (lbF xc)), .val (.int (lbF xd)), .val (.int (lbF xe)), .val (.int (lbF xf)), .val (.int (cF xa)), .val (.int (cF xb)), .val (.int (cF xe)), .val (.ref b1), .val (.int (ok1 (lbF xa) (cF xa) (lbF xb) (cF xb) (lbF xc))), .unset] [(.int (ok1 (lbF xa) (cF xa) (lbF xb) (cF xb) (lbF xc)))])) _
        refine XS.iconst X10.here hx rfl (hb hby at_211) ?_
        show Steps p.tables e below (T10.setTop (mkF m 212 #[.val (.int xa), .val (.int xb), .val (.int xc), .val (.int xd), .val (.int xe), .val (.int xf), .val (.int (lbF xa)), .val (.int (lbF xb)), .val (.int (lbF xc)), .val (.int (lbF xd)), .val (.int (lbF xe)), .val (.int (lbF xf)), .val (.int (cF xa)), .val (.int (cF xb)), .val (.int (cF xe)), .val (.ref b1), .val (.int (ok1 (lbF xa) (cF xa) (lbF xb) (cF xb) (lbF xc))), .unset] [(.int (0 : Int32)), (.int (ok1 (lbF xa) (cF xa) (lbF xb) (cF xb) (lbF xc)))])) _
        rw [show (eqF (nextR (closeS (sg2 (lbF xa) (cF xa) (lbF xb) (cF xb) (lbF xc))) (lbF xd)) (w3F (lbF xd) (lbF xa))) = (0 : Int32) from by rw [eqF, if_neg h204]] at J204
        exact J204
    show Steps p.tables e below (T10.setTop (mkF m 212 #[.val (.int xa), .val (.int xb), .val (.int xc), .val (.int xd), .val (.int xe), .val (.int xf), .val (.int (lbF xa)), .val (.int (lbF xb)), .val (.int (lbF xc)), .val (.int (lbF xd)), .val (.int (lbF xe)), .val (.int (lbF xf)), .val (.int (cF xa)), .val (.int (cF xb)), .val (.int (cF xe)), .val (.ref b1), .val (.int (ok1 (lbF xa) (cF xa) (lbF xb) (cF xb) (lbF xc))), .unset] [(.int (eqF (nextR (closeS (sg2 (lbF xa) (cF xa) (lbF xb) (cF xb) (lbF xc))) (lbF xd)) (w3F (lbF xd) (lbF xa)))), (.int (ok1 (lbF xa) (cF xa) (lbF xb) (cF xb) (lbF xc)))])) _
    refine XS.iand X10.here hx rfl (hb hby at_212) rfl ?_
    show Steps p.tables e below (T10.setTop (mkF m 213 #[.val (.int xa), .val (.int xb), .val (.int xc), .val (.int xd), .val (.int xe), .val (.int xf), .val (.int (lbF xa)), .val (.int (lbF xb)), .val (.int (lbF xc)), .val (.int (lbF xd)), .val (.int (lbF xe)), .val (.int (lbF xf)), .val (.int (cF xa)), .val (.int (cF xb)), .val (.int (cF xe)), .val (.ref b1), .val (.int (ok1 (lbF xa) (cF xa) (lbF xb) (cF xb) (lbF xc))), .unset] [(.int ((ok1 (lbF xa) (cF xa) (lbF xb) (cF xb) (lbF xc)) &&& (eqF (nextR (closeS (sg2 (lbF xa) (cF xa) (lbF xb) (cF xb) (lbF xc))) (lbF xd)) (w3F (lbF xd) (lbF xa)))))])) _
    refine XS.istore X10.here hx rfl (hb hby at_213) rfl (l' := #[.val (.int xa), .val (.int xb), .val (.int xc), .val (.int xd), .val (.int xe), .val (.int xf), .val (.int (lbF xa)), .val (.int (lbF xb)), .val (.int (lbF xc)), .val (.int (lbF xd)), .val (.int (lbF xe)), .val (.int (lbF xf)), .val (.int (cF xa)), .val (.int (cF xb)), .val (.int (cF xe)), .val (.ref b1), .val (.int (ok2 (lbF xa) (cF xa) (lbF xb) (cF xb) (lbF xc) (lbF xd))), .unset]) rfl ?_
    show Steps p.tables e below (T10.setTop (mkF m 215 #[.val (.int xa), .val (.int xb), .val (.int xc), .val (.int xd), .val (.int xe), .val (.int xf), .val (.int (lbF xa)), .val (.int (lbF xb)), .val (.int (lbF xc)), .val (.int (lbF xd)), .val (.int (lbF xe)), .val (.int (lbF xf)), .val (.int (cF xa)), .val (.int (cF xb)), .val (.int (cF xe)), .val (.ref b1), .val (.int (ok2 (lbF xa) (cF xa) (lbF xb) (cF xb) (lbF xc) (lbF xd))), .unset] [])) _
    refine XS.aload X10.here hx rfl (hb hby at_215) rfl rfl ?_
    show Steps p.tables e below (T10.setTop (mkF m 217 #[.val (.int xa), .val (.int xb), .val (.int xc), .val (.int xd), .val (.int xe), .val (.int xf), .val (.int (lbF xa)), .val (.int (lbF xb)), .val (.int (lbF xc)), .val (.int (lbF xd)), .val (.int (lbF xe)), .val (.int (lbF xf)), .val (.int (cF xa)), .val (.int (cF xb)), .val (.int (cF xe)), .val (.ref b1), .val (.int (ok2 (lbF xa) (cF xa) (lbF xb) (cF xb) (lbF xc) (lbF xd))), .unset] [(.ref b1)])) _
    refine st11.trans ?_
    show Steps p.tables e below (T11.setTop (mkF m 220 #[.val (.int xa), .val (.int xb), .val (.int xc), .val (.int xd), .val (.int xe), .val (.int xf), .val (.int (lbF xa)), .val (.int (lbF xb)), .val (.int (lbF xc)), .val (.int (lbF xd)), .val (.int (lbF xe)), .val (.int (lbF xf)), .val (.int (cF xa)), .val (.int (cF xb)), .val (.int (cF xe)), .val (.ref b1), .val (.int (ok2 (lbF xa) (cF xa) (lbF xb) (cF xb) (lbF xc) (lbF xd))), .unset] [])) _
    refine st13 _ ?_
    show Steps p.tables e below (T13.setTop (mkF m 246 #[.val (.int xa), .val (.int xb), .val (.int xc), .val (.int xd), .val (.int xe), .val (.int xf), .val (.int (lbF xa)), .val (.int (lbF xb)), .val (.int (lbF xc)), .val (.int (lbF xd)), .val (.int (lbF xe)), .val (.int (lbF xf)), .val (.int (cF xa)), .val (.int (cF xb)), .val (.int (cF xe)), .val (.ref b1), .val (.int (ok3 (lbF xa) (cF xa) (lbF xb) (cF xb) (lbF xc) (lbF xd) (cF xe) (lbF xe))), .unset] [])) _
    refine XS.aload X13.here hx rfl (hb hby at_246) rfl rfl ?_
    show Steps p.tables e below (T13.setTop (mkF m 248 #[.val (.int xa), .val (.int xb), .val (.int xc), .val (.int xd), .val (.int xe), .val (.int xf), .val (.int (lbF xa)), .val (.int (lbF xb)), .val (.int (lbF xc)), .val (.int (lbF xd)), .val (.int (lbF xe)), .val (.int (lbF xf)), .val (.int (cF xa)), .val (.int (cF xb)), .val (.int (cF xe)), .val (.ref b1), .val (.int (ok3 (lbF xa) (cF xa) (lbF xb) (cF xb) (lbF xc) (lbF xd) (cF xe) (lbF xe))), .unset] [(.ref b1)])) _
    refine st14.trans ?_
    show Steps p.tables e below (T14.setTop (mkF m 251 #[.val (.int xa), .val (.int xb), .val (.int xc), .val (.int xd), .val (.int xe), .val (.int xf), .val (.int (lbF xa)), .val (.int (lbF xb)), .val (.int (lbF xc)), .val (.int (lbF xd)), .val (.int (lbF xe)), .val (.int (lbF xf)), .val (.int (cF xa)), .val (.int (cF xb)), .val (.int (cF xe)), .val (.ref b1), .val (.int (ok3 (lbF xa) (cF xa) (lbF xb) (cF xb) (lbF xc) (lbF xd) (cF xe) (lbF xe))), .unset] [])) _
    refine XS.iconst X14.here hx rfl (hb hby at_251) ?_
    show Steps p.tables e below (T14.setTop (mkF m 252 #[.val (.int xa), .val (.int xb), .val (.int xc), .val (.int xd), .val (.int xe), .val (.int xf), .val (.int (lbF xa)), .val (.int (lbF xb)), .val (.int (lbF xc)), .val (.int (lbF xd)), .val (.int (lbF xe)), .val (.int (lbF xf)), .val (.int (cF xa)), .val (.int (cF xb)), .val (.int (cF xe)), .val (.ref b1), .val (.int (ok3 (lbF xa) (cF xa) (lbF xb) (cF xb) (lbF xc) (lbF xd) (cF xe) (lbF xe))), .unset] [(.int (1 : Int32))])) _
    refine XS.iload X14.here hx rfl (hb hby at_252) rfl ?_
    show Steps p.tables e below (T14.setTop (mkF m 254 #[.val (.int xa), .val (.int xb), .val (.int xc), .val (.int xd), .val (.int xe), .val (.int xf), .val (.int (lbF xa)), .val (.int (lbF xb)), .val (.int (lbF xc)), .val (.int (lbF xd)), .val (.int (lbF xe)), .val (.int (lbF xf)), .val (.int (cF xa)), .val (.int (cF xb)), .val (.int (cF xe)), .val (.ref b1), .val (.int (ok3 (lbF xa) (cF xa) (lbF xb) (cF xb) (lbF xc) (lbF xd) (cF xe) (lbF xe))), .unset] [(.int (lbF xf)), (.int (1 : Int32))])) _
    refine XS.iload X14.here hx rfl (hb hby at_254) rfl ?_
    show Steps p.tables e below (T14.setTop (mkF m 256 #[.val (.int xa), .val (.int xb), .val (.int xc), .val (.int xd), .val (.int xe), .val (.int xf), .val (.int (lbF xa)), .val (.int (lbF xb)), .val (.int (lbF xc)), .val (.int (lbF xd)), .val (.int (lbF xe)), .val (.int (lbF xf)), .val (.int (cF xa)), .val (.int (cF xb)), .val (.int (cF xe)), .val (.ref b1), .val (.int (ok3 (lbF xa) (cF xa) (lbF xb) (cF xb) (lbF xc) (lbF xd) (cF xe) (lbF xe))), .unset] [(.int (lbF xa)), (.int (lbF xf)), (.int (1 : Int32))])) _
    suffices J256 : Steps p.tables e below (T14.setTop (mkF m 264 #[.val (.int xa), .val (.int xb), .val (.int xc), .val (.int xd), .val (.int xe), .val (.int xf), .val (.int (lbF xa)), .val (.int (lbF xb)), .val (.int (lbF xc)), .val (.int (lbF xd)), .val (.int (lbF xe)), .val (.int (lbF xf)), .val (.int (cF xa)), .val (.int (cF xb)), .val (.int (cF xe)), .val (.ref b1), .val (.int (ok3 (lbF xa) (cF xa) (lbF xb) (cF xb) (lbF xc) (lbF xd) (cF xe) (lbF xe))), .unset] [(.int (eqF (lbF xf) (lbF xa))), (.int (1 : Int32))])) (T15.setFrames fs) by
      by_cases h256 : (lbF xf) = (lbF xa)
      · refine XS.icmpNo X14.here hx rfl (hb hby at_256) rfl (teq h256).2 ?_
        show Steps p.tables e below (T14.setTop (mkF m 259 #[.val (.int xa), .val (.int xb), .val (.int xc), .val (.int xd), .val (.int xe), .val (.int xf), .val (.int (lbF xa)), .val (.int (lbF xb)), .val (.int (lbF xc)), .val (.int (lbF xd)), .val (.int (lbF xe)), .val (.int (lbF xf)), .val (.int (cF xa)), .val (.int (cF xb)), .val (.int (cF xe)), .val (.ref b1), .val (.int (ok3 (lbF xa) (cF xa) (lbF xb) (cF xb) (lbF xc) (lbF xd) (cF xe) (lbF xe))), .unset] [(.int (1 : Int32))])) _
        refine XS.iconst X14.here hx rfl (hb hby at_259) ?_
        show Steps p.tables e below (T14.setTop (mkF m 260 #[.val (.int xa), .val (.int xb), .val (.int xc), .val (.int xd), .val (.int xe), .val (.int xf), .val (.int (lbF xa)), .val (.int (lbF xb)), .val (.int (lbF xc)), .val (.int (lbF xd)), .val (.int (lbF xe)), .val (.int (lbF xf)), .val (.int (cF xa)), .val (.int (cF xb)), .val (.int (cF xe)), .val (.ref b1), .val (.int (ok3 (lbF xa) (cF xa) (lbF xb) (cF xb) (lbF xc) (lbF xd) (cF xe) (lbF xe))), .unset] [(.int (1 : Int32)), (.int (1 : Int32))])) _
        refine XS.goto X14.here hx rfl (pc0 := 260) (pc' := 264) rfl (hb hby at_260) (by decide) (by decide) ?_
        show Steps p.tables e below (T14.setTop (mkF m 264 #[.val (.int xa), .val (.int xb), .val (.int xc), .val (.int xd), .val (.int xe), .val (.int xf), .val (.int (lbF xa)), .val (.int (lbF xb)), .val (.int (lbF xc)), .val (.int (lbF xd)), .val (.int (lbF xe)), .val (.int (lbF xf)), .val (.int (cF xa)), .val (.int (cF xb)), .val (.int (cF xe)), .val (.ref b1), .val (.int (ok3 (lbF xa) (cF xa) (lbF xb) (cF xb) (lbF xc) (lbF xd) (cF xe) (lbF xe))), .unset] [(.int (1 : Int32)), (.int (1 : Int32))])) _
        rw [show (eqF (lbF xf) (lbF xa)) = (1 : Int32) from by rw [eqF, if_pos h256]] at J256
        exact J256
      · refine XS.icmpYes X14.here hx rfl (pc0 := 256) (pc' := 263) rfl (hb hby at_256) rfl (feq h256).2 (by decide) (by decide) ?_
        show Steps p.tables e below (T14.setTop (mkF m 263 #[.val (.int xa), .val (.int xb), .val (.int xc), .val (.int xd), .val (.int xe), .val (.int xf), .val (.int (lbF xa)), .val (.int (lbF xb)), .val (.int (lbF xc)), .val (.int (lbF xd)), .val (.int (lbF xe)), .val (.int (lbF xf)), .val (.int (cF xa)), .val (.int (cF xb)), .val (.int (cF xe)), .val (.ref b1), .val (.int (ok3 (lbF xa) (cF xa) (lbF xb) (cF xb) (lbF xc) (lbF xd) (cF xe) (lbF xe))), .unset] [(.int (1 : Int32))])) _
        refine XS.iconst X14.here hx rfl (hb hby at_263) ?_
        show Steps p.tables e below (T14.setTop (mkF m 264 #[.val (.int xa), .val (.int xb), .val (.int xc), .val (.int xd), .val (.int xe), .val (.int xf), .val (.int (lbF xa)), .val (.int (lbF xb)), .val (.int (lbF xc)), .val (.int (lbF xd)), .val (.int (lbF xe)), .val (.int (lbF xf)), .val (.int (cF xa)), .val (.int (cF xb)), .val (.int (cF xe)), .val (.ref b1), .val (.int (ok3 (lbF xa) (cF xa) (lbF xb) (cF xb) (lbF xc) (lbF xd) (cF xe) (lbF xe))), .unset] [(.int (0 : Int32)), (.int (1 : Int32))])) _
        rw [show (eqF (lbF xf) (lbF xa)) = (0 : Int32) from by rw [eqF, if_neg h256]] at J256
        exact J256
    show Steps p.tables e below (T14.setTop (mkF m 264 #[.val (.int xa), .val (.int xb), .val (.int xc), .val (.int xd), .val (.int xe), .val (.int xf), .val (.int (lbF xa)), .val (.int (lbF xb)), .val (.int (lbF xc)), .val (.int (lbF xd)), .val (.int (lbF xe)), .val (.int (lbF xf)), .val (.int (cF xa)), .val (.int (cF xb)), .val (.int (cF xe)), .val (.ref b1), .val (.int (ok3 (lbF xa) (cF xa) (lbF xb) (cF xb) (lbF xc) (lbF xd) (cF xe) (lbF xe))), .unset] [(.int (eqF (lbF xf) (lbF xa))), (.int (1 : Int32))])) _
    refine XS.iadd X14.here hx rfl (hb hby at_264) rfl ?_
    show Steps p.tables e below (T14.setTop (mkF m 265 #[.val (.int xa), .val (.int xb), .val (.int xc), .val (.int xd), .val (.int xe), .val (.int xf), .val (.int (lbF xa)), .val (.int (lbF xb)), .val (.int (lbF xc)), .val (.int (lbF xd)), .val (.int (lbF xe)), .val (.int (lbF xf)), .val (.int (cF xa)), .val (.int (cF xb)), .val (.int (cF xe)), .val (.ref b1), .val (.int (ok3 (lbF xa) (cF xa) (lbF xb) (cF xb) (lbF xc) (lbF xd) (cF xe) (lbF xe))), .unset] [(.int ((1 : Int32) + (eqF (lbF xf) (lbF xa))))])) _
    refine XS.iload X14.here hx rfl (hb hby at_265) rfl ?_
    show Steps p.tables e below (T14.setTop (mkF m 267 #[.val (.int xa), .val (.int xb), .val (.int xc), .val (.int xd), .val (.int xe), .val (.int xf), .val (.int (lbF xa)), .val (.int (lbF xb)), .val (.int (lbF xc)), .val (.int (lbF xd)), .val (.int (lbF xe)), .val (.int (lbF xf)), .val (.int (cF xa)), .val (.int (cF xb)), .val (.int (cF xe)), .val (.ref b1), .val (.int (ok3 (lbF xa) (cF xa) (lbF xb) (cF xb) (lbF xc) (lbF xd) (cF xe) (lbF xe))), .unset] [(.int (lbF xf)), (.int ((1 : Int32) + (eqF (lbF xf) (lbF xa))))])) _
    refine XS.iload X14.here hx rfl (hb hby at_267) rfl ?_
    show Steps p.tables e below (T14.setTop (mkF m 269 #[.val (.int xa), .val (.int xb), .val (.int xc), .val (.int xd), .val (.int xe), .val (.int xf), .val (.int (lbF xa)), .val (.int (lbF xb)), .val (.int (lbF xc)), .val (.int (lbF xd)), .val (.int (lbF xe)), .val (.int (lbF xf)), .val (.int (cF xa)), .val (.int (cF xb)), .val (.int (cF xe)), .val (.ref b1), .val (.int (ok3 (lbF xa) (cF xa) (lbF xb) (cF xb) (lbF xc) (lbF xd) (cF xe) (lbF xe))), .unset] [(.int (lbF xd)), (.int (lbF xf)), (.int ((1 : Int32) + (eqF (lbF xf) (lbF xa))))])) _
    suffices J269 : Steps p.tables e below (T14.setTop (mkF m 277 #[.val (.int xa), .val (.int xb), .val (.int xc), .val (.int xd), .val (.int xe), .val (.int xf), .val (.int (lbF xa)), .val (.int (lbF xb)), .val (.int (lbF xc)), .val (.int (lbF xd)), .val (.int (lbF xe)), .val (.int (lbF xf)), .val (.int (cF xa)), .val (.int (cF xb)), .val (.int (cF xe)), .val (.ref b1), .val (.int (ok3 (lbF xa) (cF xa) (lbF xb) (cF xb) (lbF xc) (lbF xd) (cF xe) (lbF xe))), .unset] [(.int (eqF (lbF xf) (lbF xd))), (.int ((1 : Int32) + (eqF (lbF xf) (lbF xa))))])) (T15.setFrames fs) by
      by_cases h269 : (lbF xf) = (lbF xd)
      · refine XS.icmpNo X14.here hx rfl (hb hby at_269) rfl (teq h269).2 ?_
        show Steps p.tables e below (T14.setTop (mkF m 272 #[.val (.int xa), .val (.int xb), .val (.int xc), .val (.int xd), .val (.int xe), .val (.int xf), .val (.int (lbF xa)), .val (.int (lbF xb)), .val (.int (lbF xc)), .val (.int (lbF xd)), .val (.int (lbF xe)), .val (.int (lbF xf)), .val (.int (cF xa)), .val (.int (cF xb)), .val (.int (cF xe)), .val (.ref b1), .val (.int (ok3 (lbF xa) (cF xa) (lbF xb) (cF xb) (lbF xc) (lbF xd) (cF xe) (lbF xe))), .unset] [(.int ((1 : Int32) + (eqF (lbF xf) (lbF xa))))])) _
        refine XS.iconst X14.here hx rfl (hb hby at_272) ?_
        show Steps p.tables e below (T14.setTop (mkF m 273 #[.val (.int xa), .val (.int xb), .val (.int xc), .val (.int xd), .val (.int xe), .val (.int xf), .val (.int (lbF xa)), .val (.int (lbF xb)), .val (.int (lbF xc)), .val (.int (lbF xd)), .val (.int (lbF xe)), .val (.int (lbF xf)), .val (.int (cF xa)), .val (.int (cF xb)), .val (.int (cF xe)), .val (.ref b1), .val (.int (ok3 (lbF xa) (cF xa) (lbF xb) (cF xb) (lbF xc) (lbF xd) (cF xe) (lbF xe))), .unset] [(.int (1 : Int32)), (.int ((1 : Int32) + (eqF (lbF xf) (lbF xa))))])) _
        refine XS.goto X14.here hx rfl (pc0 := 273) (pc' := 277) rfl (hb hby at_273) (by decide) (by decide) ?_
        show Steps p.tables e below (T14.setTop (mkF m 277 #[.val (.int xa), .val (.int xb), .val (.int xc), .val (.int xd), .val (.int xe), .val (.int xf), .val (.int (lbF xa)), .val (.int (lbF xb)), .val (.int (lbF xc)), .val (.int (lbF xd)), .val (.int (lbF xe)), .val (.int (lbF xf)), .val (.int (cF xa)), .val (.int (cF xb)), .val (.int (cF xe)), .val (.ref b1), .val (.int (ok3 (lbF xa) (cF xa) (lbF xb) (cF xb) (lbF xc) (lbF xd) (cF xe) (lbF xe))), .unset] [(.int (1 : Int32)), (.int ((1 : Int32) + (eqF (lbF xf) (lbF xa))))])) _
        rw [show (eqF (lbF xf) (lbF xd)) = (1 : Int32) from by rw [eqF, if_pos h269]] at J269
        exact J269
      · refine XS.icmpYes X14.here hx rfl (pc0 := 269) (pc' := 276) rfl (hb hby at_269) rfl (feq h269).2 (by decide) (by decide) ?_
        show Steps p.tables e below (T14.setTop (mkF m 276 #[.val (.int xa), .val (.int xb), .val (.int xc), .val (.int xd), .val (.int xe), .val (.int xf), .val (.int (lbF xa)), .val (.int (lbF xb)), .val (.int (lbF xc)), .val (.int (lbF xd)), .val (.int (lbF xe)), .val (.int (lbF xf)), .val (.int (cF xa)), .val (.int (cF xb)), .val (.int (cF xe)), .val (.ref b1), .val (.int (ok3 (lbF xa) (cF xa) (lbF xb) (cF xb) (lbF xc) (lbF xd) (cF xe) (lbF xe))), .unset] [(.int ((1 : Int32) + (eqF (lbF xf) (lbF xa))))])) _
        refine XS.iconst X14.here hx rfl (hb hby at_276) ?_
        show Steps p.tables e below (T14.setTop (mkF m 277 #[.val (.int xa), .val (.int xb), .val (.int xc), .val (.int xd), .val (.int xe), .val (.int xf), .val (.int (lbF xa)), .val (.int (lbF xb)), .val (.int (lbF xc)), .val (.int (lbF xd)), .val (.int (lbF xe)), .val (.int (lbF xf)), .val (.int (cF xa)), .val (.int (cF xb)), .val (.int (cF xe)), .val (.ref b1), .val (.int (ok3 (lbF xa) (cF xa) (lbF xb) (cF xb) (lbF xc) (lbF xd) (cF xe) (lbF xe))), .unset] [(.int (0 : Int32)), (.int ((1 : Int32) + (eqF (lbF xf) (lbF xa))))])) _
        rw [show (eqF (lbF xf) (lbF xd)) = (0 : Int32) from by rw [eqF, if_neg h269]] at J269
        exact J269
    show Steps p.tables e below (T14.setTop (mkF m 277 #[.val (.int xa), .val (.int xb), .val (.int xc), .val (.int xd), .val (.int xe), .val (.int xf), .val (.int (lbF xa)), .val (.int (lbF xb)), .val (.int (lbF xc)), .val (.int (lbF xd)), .val (.int (lbF xe)), .val (.int (lbF xf)), .val (.int (cF xa)), .val (.int (cF xb)), .val (.int (cF xe)), .val (.ref b1), .val (.int (ok3 (lbF xa) (cF xa) (lbF xb) (cF xb) (lbF xc) (lbF xd) (cF xe) (lbF xe))), .unset] [(.int (eqF (lbF xf) (lbF xd))), (.int ((1 : Int32) + (eqF (lbF xf) (lbF xa))))])) _
    refine XS.iadd X14.here hx rfl (hb hby at_277) rfl ?_
    show Steps p.tables e below (T14.setTop (mkF m 278 #[.val (.int xa), .val (.int xb), .val (.int xc), .val (.int xd), .val (.int xe), .val (.int xf), .val (.int (lbF xa)), .val (.int (lbF xb)), .val (.int (lbF xc)), .val (.int (lbF xd)), .val (.int (lbF xe)), .val (.int (lbF xf)), .val (.int (cF xa)), .val (.int (cF xb)), .val (.int (cF xe)), .val (.ref b1), .val (.int (ok3 (lbF xa) (cF xa) (lbF xb) (cF xb) (lbF xc) (lbF xd) (cF xe) (lbF xe))), .unset] [(.int (((1 : Int32) + (eqF (lbF xf) (lbF xa))) + (eqF (lbF xf) (lbF xd))))])) _
    refine XS.istore X14.here hx rfl (hb hby at_278) rfl (l' := #[.val (.int xa), .val (.int xb), .val (.int xc), .val (.int xd), .val (.int xe), .val (.int xf), .val (.int (lbF xa)), .val (.int (lbF xb)), .val (.int (lbF xc)), .val (.int (lbF xd)), .val (.int (lbF xe)), .val (.int (lbF xf)), .val (.int (cF xa)), .val (.int (cF xb)), .val (.int (cF xe)), .val (.ref b1), .val (.int (ok3 (lbF xa) (cF xa) (lbF xb) (cF xb) (lbF xc) (lbF xd) (cF xe) (lbF xe))), .val (.int (w5F (lbF xf) (lbF xa) (lbF xd)))]) rfl ?_
    show Steps p.tables e below (T14.setTop (mkF m 280 #[.val (.int xa), .val (.int xb), .val (.int xc), .val (.int xd), .val (.int xe), .val (.int xf), .val (.int (lbF xa)), .val (.int (lbF xb)), .val (.int (lbF xc)), .val (.int (lbF xd)), .val (.int (lbF xe)), .val (.int (lbF xf)), .val (.int (cF xa)), .val (.int (cF xb)), .val (.int (cF xe)), .val (.ref b1), .val (.int (ok3 (lbF xa) (cF xa) (lbF xb) (cF xb) (lbF xc) (lbF xd) (cF xe) (lbF xe))), .val (.int (w5F (lbF xf) (lbF xa) (lbF xd)))] [])) _
    refine XS.iload X14.here hx rfl (hb hby at_280) rfl ?_
    show Steps p.tables e below (T14.setTop (mkF m 282 #[.val (.int xa), .val (.int xb), .val (.int xc), .val (.int xd), .val (.int xe), .val (.int xf), .val (.int (lbF xa)), .val (.int (lbF xb)), .val (.int (lbF xc)), .val (.int (lbF xd)), .val (.int (lbF xe)), .val (.int (lbF xf)), .val (.int (cF xa)), .val (.int (cF xb)), .val (.int (cF xe)), .val (.ref b1), .val (.int (ok3 (lbF xa) (cF xa) (lbF xb) (cF xb) (lbF xc) (lbF xd) (cF xe) (lbF xe))), .val (.int (w5F (lbF xf) (lbF xa) (lbF xd)))] [(.int (ok3 (lbF xa) (cF xa) (lbF xb) (cF xb) (lbF xc) (lbF xd) (cF xe) (lbF xe)))])) _
    refine XS.aload X14.here hx rfl (hb hby at_282) rfl rfl ?_
    show Steps p.tables e below (T14.setTop (mkF m 284 #[.val (.int xa), .val (.int xb), .val (.int xc), .val (.int xd), .val (.int xe), .val (.int xf), .val (.int (lbF xa)), .val (.int (lbF xb)), .val (.int (lbF xc)), .val (.int (lbF xd)), .val (.int (lbF xe)), .val (.int (lbF xf)), .val (.int (cF xa)), .val (.int (cF xb)), .val (.int (cF xe)), .val (.ref b1), .val (.int (ok3 (lbF xa) (cF xa) (lbF xb) (cF xb) (lbF xc) (lbF xd) (cF xe) (lbF xe))), .val (.int (w5F (lbF xf) (lbF xa) (lbF xd)))] [(.ref b1), (.int (ok3 (lbF xa) (cF xa) (lbF xb) (cF xb) (lbF xc) (lbF xd) (cF xe) (lbF xe)))])) _
    refine XS.iload X14.here hx rfl (hb hby at_284) rfl ?_
    show Steps p.tables e below (T14.setTop (mkF m 286 #[.val (.int xa), .val (.int xb), .val (.int xc), .val (.int xd), .val (.int xe), .val (.int xf), .val (.int (lbF xa)), .val (.int (lbF xb)), .val (.int (lbF xc)), .val (.int (lbF xd)), .val (.int (lbF xe)), .val (.int (lbF xf)), .val (.int (cF xa)), .val (.int (cF xb)), .val (.int (cF xe)), .val (.ref b1), .val (.int (ok3 (lbF xa) (cF xa) (lbF xb) (cF xb) (lbF xc) (lbF xd) (cF xe) (lbF xe))), .val (.int (w5F (lbF xf) (lbF xa) (lbF xd)))] [(.int (lbF xf)), (.ref b1), (.int (ok3 (lbF xa) (cF xa) (lbF xb) (cF xb) (lbF xc) (lbF xd) (cF xe) (lbF xe)))])) _
    refine st15.trans ?_
    show Steps p.tables e below (T15.setTop (mkF m 289 #[.val (.int xa), .val (.int xb), .val (.int xc), .val (.int xd), .val (.int xe), .val (.int xf), .val (.int (lbF xa)), .val (.int (lbF xb)), .val (.int (lbF xc)), .val (.int (lbF xd)), .val (.int (lbF xe)), .val (.int (lbF xf)), .val (.int (cF xa)), .val (.int (cF xb)), .val (.int (cF xe)), .val (.ref b1), .val (.int (ok3 (lbF xa) (cF xa) (lbF xb) (cF xb) (lbF xc) (lbF xd) (cF xe) (lbF xe))), .val (.int (w5F (lbF xf) (lbF xa) (lbF xd)))] [(.int (nextR (sg4 (lbF xa) (cF xa) (lbF xb) (cF xb) (lbF xc) (lbF xd) (cF xe) (lbF xe)) (lbF xf))), (.int (ok3 (lbF xa) (cF xa) (lbF xb) (cF xb) (lbF xc) (lbF xd) (cF xe) (lbF xe)))])) _
    refine XS.iload X15.here hx rfl (hb hby at_289) rfl ?_
    show Steps p.tables e below (T15.setTop (mkF m 291 #[.val (.int xa), .val (.int xb), .val (.int xc), .val (.int xd), .val (.int xe), .val (.int xf), .val (.int (lbF xa)), .val (.int (lbF xb)), .val (.int (lbF xc)), .val (.int (lbF xd)), .val (.int (lbF xe)), .val (.int (lbF xf)), .val (.int (cF xa)), .val (.int (cF xb)), .val (.int (cF xe)), .val (.ref b1), .val (.int (ok3 (lbF xa) (cF xa) (lbF xb) (cF xb) (lbF xc) (lbF xd) (cF xe) (lbF xe))), .val (.int (w5F (lbF xf) (lbF xa) (lbF xd)))] [(.int (w5F (lbF xf) (lbF xa) (lbF xd))), (.int (nextR (sg4 (lbF xa) (cF xa) (lbF xb) (cF xb) (lbF xc) (lbF xd) (cF xe) (lbF xe)) (lbF xf))), (.int (ok3 (lbF xa) (cF xa) (lbF xb) (cF xb) (lbF xc) (lbF xd) (cF xe) (lbF xe)))])) _
    suffices J291 : Steps p.tables e below (T15.setTop (mkF m 299 #[.val (.int xa), .val (.int xb), .val (.int xc), .val (.int xd), .val (.int xe), .val (.int xf), .val (.int (lbF xa)), .val (.int (lbF xb)), .val (.int (lbF xc)), .val (.int (lbF xd)), .val (.int (lbF xe)), .val (.int (lbF xf)), .val (.int (cF xa)), .val (.int (cF xb)), .val (.int (cF xe)), .val (.ref b1), .val (.int (ok3 (lbF xa) (cF xa) (lbF xb) (cF xb) (lbF xc) (lbF xd) (cF xe) (lbF xe))), .val (.int (w5F (lbF xf) (lbF xa) (lbF xd)))] [(.int (eqF (nextR (sg4 (lbF xa) (cF xa) (lbF xb) (cF xb) (lbF xc) (lbF xd) (cF xe) (lbF xe)) (lbF xf)) (w5F (lbF xf) (lbF xa) (lbF xd)))), (.int (ok3 (lbF xa) (cF xa) (lbF xb) (cF xb) (lbF xc) (lbF xd) (cF xe) (lbF xe)))])) (T15.setFrames fs) by
      by_cases h291 : (nextR (sg4 (lbF xa) (cF xa) (lbF xb) (cF xb) (lbF xc) (lbF xd) (cF xe) (lbF xe)) (lbF xf)) = (w5F (lbF xf) (lbF xa) (lbF xd))
      · refine XS.icmpNo X15.here hx rfl (hb hby at_291) rfl (teq h291).2 ?_
        show Steps p.tables e below (T15.setTop (mkF m 294 #[.val (.int xa), .val (.int xb), .val (.int xc), .val (.int xd), .val (.int xe), .val (.int xf), .val (.int (lbF xa)), .val (.int (lbF xb)), .val (.int (lbF xc)), .val (.int (lbF xd)), .val (.int (lbF xe)), .val (.int (lbF xf)), .val (.int (cF xa)), .val (.int (cF xb)), .val (.int (cF xe)), .val (.ref b1), .val (.int (ok3 (lbF xa) (cF xa) (lbF xb) (cF xb) (lbF xc) (lbF xd) (cF xe) (lbF xe))), .val (.int (w5F (lbF xf) (lbF xa) (lbF xd)))] [(.int (ok3 (lbF xa) (cF xa) (lbF xb) (cF xb) (lbF xc) (lbF xd) (cF xe) (lbF xe)))])) _
        refine XS.iconst X15.here hx rfl (hb hby at_294) ?_
        show Steps p.tables e below (T15.setTop (mkF m 295 #[.val (.int xa), .val (.int xb), .val (.int xc), .val (.int xd), .val (.int xe), .val (.int xf), .val (.int (lbF xa)), .val (.int (lbF xb)), .val (.int (lbF xc)), .val (.int (lbF xd)), .val (.int (lbF xe)), .val (.int (lbF xf)), .val (.int (cF xa)), .val (.int (cF xb)), .val (.int (cF xe)), .val (.ref b1), .val (.int (ok3 (lbF xa) (cF xa) (lbF xb) (cF xb) (lbF xc) (lbF xd) (cF xe) (lbF xe))), .val (.int (w5F (lbF xf) (lbF xa) (lbF xd)))] [(.int (1 : Int32)), (.int (ok3 (lbF xa) (cF xa) (lbF xb) (cF xb) (lbF xc) (lbF xd) (cF xe) (lbF xe)))])) _
        refine XS.goto X15.here hx rfl (pc0 := 295) (pc' := 299) rfl (hb hby at_295) (by decide) (by decide) ?_
        show Steps p.tables e below (T15.setTop (mkF m 299 #[.val (.int xa), .val (.int xb), .val (.int xc), .val (.int xd), .val (.int xe), .val (.int xf), .val (.int (lbF xa)), .val (.int (lbF xb)), .val (.int (lbF xc)), .val (.int (lbF xd)), .val (.int (lbF xe)), .val (.int (lbF xf)), .val (.int (cF xa)), .val (.int (cF xb)), .val (.int (cF xe)), .val (.ref b1), .val (.int (ok3 (lbF xa) (cF xa) (lbF xb) (cF xb) (lbF xc) (lbF xd) (cF xe) (lbF xe))), .val (.int (w5F (lbF xf) (lbF xa) (lbF xd)))] [(.int (1 : Int32)), (.int (ok3 (lbF xa) (cF xa) (lbF xb) (cF xb) (lbF xc) (lbF xd) (cF xe) (lbF xe)))])) _
        rw [show (eqF (nextR (sg4 (lbF xa) (cF xa) (lbF xb) (cF xb) (lbF xc) (lbF xd) (cF xe) (lbF xe)) (lbF xf)) (w5F (lbF xf) (lbF xa) (lbF xd))) = (1 : Int32) from by rw [eqF, if_pos h291]] at J291
        exact J291
      · refine XS.icmpYes X15.here hx rfl (pc0 := 291) (pc' := 298) rfl (hb hby at_291) rfl (feq h291).2 (by decide) (by decide) ?_
        show Steps p.tables e below (T15.setTop (mkF m 298 #[.val (.int xa), .val (.int xb), .val (.int xc), .val (.int xd), .val (.int xe), .val (.int xf), .val (.int (lbF xa)), .val (.int (lbF xb)), .val (.int (lbF xc)), .val (.int (lbF xd)), .val (.int (lbF xe)), .val (.int (lbF xf)), .val (.int (cF xa)), .val (.int (cF xb)), .val (.int (cF xe)), .val (.ref b1), .val (.int (ok3 (lbF xa) (cF xa) (lbF xb) (cF xb) (lbF xc) (lbF xd) (cF xe) (lbF xe))), .val (.int (w5F (lbF xf) (lbF xa) (lbF xd)))] [(.int (ok3 (lbF xa) (cF xa) (lbF xb) (cF xb) (lbF xc) (lbF xd) (cF xe) (lbF xe)))])) _
        refine XS.iconst X15.here hx rfl (hb hby at_298) ?_
        show Steps p.tables e below (T15.setTop (mkF m 299 #[.val (.int xa), .val (.int xb), .val (.int xc), .val (.int xd), .val (.int xe), .val (.int xf), .val (.int (lbF xa)), .val (.int (lbF xb)), .val (.int (lbF xc)), .val (.int (lbF xd)), .val (.int (lbF xe)), .val (.int (lbF xf)), .val (.int (cF xa)), .val (.int (cF xb)), .val (.int (cF xe)), .val (.ref b1), .val (.int (ok3 (lbF xa) (cF xa) (lbF xb) (cF xb) (lbF xc) (lbF xd) (cF xe) (lbF xe))), .val (.int (w5F (lbF xf) (lbF xa) (lbF xd)))] [(.int (0 : Int32)), (.int (ok3 (lbF xa) (cF xa) (lbF xb) (cF xb) (lbF xc) (lbF xd) (cF xe) (lbF xe)))])) _
        rw [show (eqF (nextR (sg4 (lbF xa) (cF xa) (lbF xb) (cF xb) (lbF xc) (lbF xd) (cF xe) (lbF xe)) (lbF xf)) (w5F (lbF xf) (lbF xa) (lbF xd))) = (0 : Int32) from by rw [eqF, if_neg h291]] at J291
        exact J291
    show Steps p.tables e below (T15.setTop (mkF m 299 #[.val (.int xa), .val (.int xb), .val (.int xc), .val (.int xd), .val (.int xe), .val (.int xf), .val (.int (lbF xa)), .val (.int (lbF xb)), .val (.int (lbF xc)), .val (.int (lbF xd)), .val (.int (lbF xe)), .val (.int (lbF xf)), .val (.int (cF xa)), .val (.int (cF xb)), .val (.int (cF xe)), .val (.ref b1), .val (.int (ok3 (lbF xa) (cF xa) (lbF xb) (cF xb) (lbF xc) (lbF xd) (cF xe) (lbF xe))), .val (.int (w5F (lbF xf) (lbF xa) (lbF xd)))] [(.int (eqF (nextR (sg4 (lbF xa) (cF xa) (lbF xb) (cF xb) (lbF xc) (lbF xd) (cF xe) (lbF xe)) (lbF xf)) (w5F (lbF xf) (lbF xa) (lbF xd)))), (.int (ok3 (lbF xa) (cF xa) (lbF xb) (cF xb) (lbF xc) (lbF xd) (cF xe) (lbF xe)))])) _
    refine XS.iand X15.here hx rfl (hb hby at_299) rfl ?_
    show Steps p.tables e below (T15.setTop (mkF m 300 #[.val (.int xa), .val (.int xb), .val (.int xc), .val (.int xd), .val (.int xe), .val (.int xf), .val (.int (lbF xa)), .val (.int (lbF xb)), .val (.int (lbF xc)), .val (.int (lbF xd)), .val (.int (lbF xe)), .val (.int (lbF xf)), .val (.int (cF xa)), .val (.int (cF xb)), .val (.int (cF xe)), .val (.ref b1), .val (.int (ok3 (lbF xa) (cF xa) (lbF xb) (cF xb) (lbF xc) (lbF xd) (cF xe) (lbF xe))), .val (.int (w5F (lbF xf) (lbF xa) (lbF xd)))] [(.int ((ok3 (lbF xa) (cF xa) (lbF xb) (cF xb) (lbF xc) (lbF xd) (cF xe) (lbF xe)) &&& (eqF (nextR (sg4 (lbF xa) (cF xa) (lbF xb) (cF xb) (lbF xc) (lbF xd) (cF xe) (lbF xe)) (lbF xf)) (w5F (lbF xf) (lbF xa) (lbF xd)))))])) _
    refine XS.istore X15.here hx rfl (hb hby at_300) rfl (l' := #[.val (.int xa), .val (.int xb), .val (.int xc), .val (.int xd), .val (.int xe), .val (.int xf), .val (.int (lbF xa)), .val (.int (lbF xb)), .val (.int (lbF xc)), .val (.int (lbF xd)), .val (.int (lbF xe)), .val (.int (lbF xf)), .val (.int (cF xa)), .val (.int (cF xb)), .val (.int (cF xe)), .val (.ref b1), .val (.int (ok4 (lbF xa) (cF xa) (lbF xb) (cF xb) (lbF xc) (lbF xd) (cF xe) (lbF xe) (lbF xf))), .val (.int (w5F (lbF xf) (lbF xa) (lbF xd)))]) rfl ?_
    show Steps p.tables e below (T15.setTop (mkF m 302 #[.val (.int xa), .val (.int xb), .val (.int xc), .val (.int xd), .val (.int xe), .val (.int xf), .val (.int (lbF xa)), .val (.int (lbF xb)), .val (.int (lbF xc)), .val (.int (lbF xd)), .val (.int (lbF xe)), .val (.int (lbF xf)), .val (.int (cF xa)), .val (.int (cF xb)), .val (.int (cF xe)), .val (.ref b1), .val (.int (ok4 (lbF xa) (cF xa) (lbF xb) (cF xb) (lbF xc) (lbF xd) (cF xe) (lbF xe) (lbF xf))), .val (.int (w5F (lbF xf) (lbF xa) (lbF xd)))] [])) _
    refine XS.iload X15.here hx rfl (hb hby at_302) rfl ?_
    show Steps p.tables e below (T15.setTop (mkF m 304 #[.val (.int xa), .val (.int xb), .val (.int xc), .val (.int xd), .val (.int xe), .val (.int xf), .val (.int (lbF xa)), .val (.int (lbF xb)), .val (.int (lbF xc)), .val (.int (lbF xd)), .val (.int (lbF xe)), .val (.int (lbF xf)), .val (.int (cF xa)), .val (.int (cF xb)), .val (.int (cF xe)), .val (.ref b1), .val (.int (ok4 (lbF xa) (cF xa) (lbF xb) (cF xb) (lbF xc) (lbF xd) (cF xe) (lbF xe) (lbF xf))), .val (.int (w5F (lbF xf) (lbF xa) (lbF xd)))] [(.int (ok4 (lbF xa) (cF xa) (lbF xb) (cF xb) (lbF xc) (lbF xd) (cF xe) (lbF xe) (lbF xf)))])) _
    exact retN X15 hx (t := .boolean) Bd.returns (by simp) (hb hby at_304) (by rw [show nar .boolean (ok4 (lbF xa) (cF xa) (lbF xb) (cF xb) (lbF xc) (lbF xd) (cF xe) (lbF xe) (lbF xf)) = (1 : Int32) from by rw [hone]; rfl]; exact hr)
  · show Q_law Z xa xb xc xd xe xf h0 n0 _ T15.heap _
    exact ⟨rfl, N15, trivial⟩
set_option maxRecDepth 65536 in
set_option maxHeartbeats 40000000 in
theorem comes_1 {Post : Tables → Env → Array Value → State → Outcome → State → Prop} (hpost : ∀ tb e args s v u, (limb_1_1.after args s (.returned v) u = true ∧ limb_1_2.after args s (.returned v) u = true ∧ True) → FrameEnd s (.returned v) u (Jvm.fieldLocs frame_1_writes args s ++ Jvm.arrayLocs frame_1_arrays args s ++ Jvm.staticLocs frame_1_statics s) 32 256 → Post tb e args s (.returned v) u) :
    ArmFor flags0 classFile x code maxLocals ret World_1 tables_1 room_1 Calls_1 rest_1 Pre_1 Post := by
  intro l hfl _ _ p e ha hc hk s m args below hf hA hF happ hP
  obtain ⟨hcalls, hrest, hpre⟩ := hP
  obtain ⟨-, -, -, hnamed, -, -, -, hat⟩ := (Spec.applies_iff hf).mp happ
  obtain ⟨hg, hn⟩ := and_e (Cond.before_iff.mp (show (Jvm.Cond.and given_1 narrow_1).before args s = true from hpre))
  obtain ⟨gc, g0⟩ := and_e hg
  obtain ⟨k0, g1⟩ := and_e g0
  obtain ⟨k1, g2⟩ := and_e g1
  obtain ⟨k2, g3⟩ := and_e g2
  obtain ⟨k3, g4⟩ := and_e g3
  obtain ⟨k4, g5⟩ := and_e g4
  have k5 := g5
  obtain ⟨w0, w1, w2, w3, w4, w5, rfl⟩ : ∃ w0 w1 w2 w3 w4 w5 : Value, args = #[w0, w1, w2, w3, w4, w5] := by
    have hs : args.size = 6 := by simpa [Cond.value, given_1] using gc
    obtain ⟨L⟩ := args
    match L, hs with
    | [w0, w1, w2, w3, w4, w5], _ => exact ⟨w0, w1, w2, w3, w4, w5, rfl⟩
  have hw := fun d (hd : d ∈ tables_1) => atoms_spec (ws := Jvm.Cond.code x code maxLocals ret :: tables_1) hat d (List.mem_cons_of_mem _ hd)
  obtain ⟨i0, ei0⟩ := is_v k0
  obtain rfl : w0 = (.int i0) := Option.some.inj ei0
  obtain ⟨i1, ei1⟩ := is_v k1
  obtain rfl : w1 = (.int i1) := Option.some.inj ei1
  obtain ⟨i2, ei2⟩ := is_v k2
  obtain rfl : w2 = (.int i2) := Option.some.inj ei2
  obtain ⟨i3, ei3⟩ := is_v k3
  obtain rfl : w3 = (.int i3) := Option.some.inj ei3
  obtain ⟨i4, ei4⟩ := is_v k4
  obtain rfl : w4 = (.int i4) := Option.some.inj ei4
  obtain ⟨i5, ei5⟩ := is_v k5
  obtain rfl : w5 = (.int i5) := Option.some.inj ei5
  obtain ⟨n, o, h1, h2, h3, v, L, rfl, hQ, hq⟩ := rm_law l s _ hw tables_1 i0 i1 i2 i3 i4 i5 s.heap s.heap.size (Nat.le_refl _)  p e ha hc hk s m _ below hf ((Spec.applies_iff_loose hf).mp happ).1 ⟨rfl, State.Warmed39.refl s, rfl⟩ trivial
  have hv : v = some (.int 1) := hQ.1
  subst hv
  have N := hQ.2.1
  refine ⟨n, _, h1, h2, h3, hpost _ _ _ _ _ _ ⟨Cond.after_iff.mpr rfl, Cond.after_iff.mpr (eq_i res_at (Term.int_eval (1)) rfl), trivial⟩ ⟨hq.1, hq.2.1, (hq.2.2.sift fun y hy => Or.inr (N y hy)).mono (by decide) (by decide)⟩⟩
theorem main_1_1 : Claimed_1_1 := comes_1 fun _ _ _ _ _ _ h hF => ⟨h.1, hF⟩
theorem main_1_2 : Claimed_1_2 := comes_1 fun _ _ _ _ _ _ h hF => ⟨h.2.1, hF⟩
end Jvm.Pilot.@@N@@
namespace Jvm.Pilot.@@N@@
open Jvm Jvm.ClassFile Sem Op Lib Jvm.Free Jvm.Stand Jvm.Pilot.@@N@@.Jvm.D
/-! MADE BY PROGRAM (witnessworld.py) out of the Statement's table words and the real class files: 12 classes; the members and pool entries that the words name. The judged class is class 1, her method 1. -/
namespace start1
open Jvm.ClassFile
def u (s : String) : CpInfo := .utf8 (stringToUtf16 s)
/-- a pool by its gaps: so many unusable entries, then the entry; so many at the end -/
def gap : Nat → List CpInfo → List CpInfo
  | 0, r => r
  | n + 1, r => .unusable :: gap n r
def poolList (es : List (Nat × CpInfo)) (last : Nat) : List CpInfo := es.foldr (fun e r => gap e.1 (e.2 :: r)) (gap last [])
def pool (es : List (Nat × CpInfo)) (last : Nat) : Array CpInfo := ⟨poolList es last⟩
def fileOf (pool : Array CpInfo) (this : Nat) (attrs : Array Attribute := #[]) (ms : Array MethodInfo := #[]) (fl : Nat := 33) (sup : Nat := 0) (ifs : Array Nat := #[]) (fds : Array FieldInfo := #[]) : ClassFile where
  minorVersion := 0
  majorVersion := 65
  constantPool := pool
  accessFlags := fl
  thisClass := this
  superClass := sup
  interfaces := ifs
  fields := fds
  methods := ms
  attributes := attrs
def plain (name : String) (sup : Option ClassId) : Class where
  name := name
  kind := .ordinary
  loader := none
  accessFlags := 33
  super := sup
  interfaces := #[]
  cf := none
  fields := #[]
  methods := #[]
  instanceTypes := #[]
  staticTypes := #[]
  resolved := #[]
  callSites := []
  init := .initialized
  statics := none
  mirror := none

def pool0 : Array CpInfo := pool [(5, u "<init>"), (0, u "()V"), (1, .class_ 10), (1, u "java/lang/Object")] 113

def k0c0 : Code := { maxStack := 0, maxLocals := 1, code := object_method_1_code, exceptionTable := #[], attributes := #[] }
def k0m0 : Method := { name := "<init>", desc := "()V", sig := { parameters := [], returnType := none }, accessFlags := 1, code := some k0c0 }
/-- java/lang/Object -/
def k0 : Class := { plain "java/lang/Object" none with
  accessFlags := 33
  interfaces := #[]
  cf := some (fileOf pool0 8 #[] #[{ accessFlags := 1, nameIndex := 5, descriptorIndex := 6, attributes := #[] }] 33 0 #[] #[])
  fields := #[]
  methods := #[k0m0]
  instanceTypes := #[]
  staticTypes := #[]
  resolved := Array.replicate 124 none
  statics := none }

def pool1 : Array CpInfo := pool [(2, .class_ 4), (0, .nameAndType 5 6), (0, u "java/lang/Object"), (0, u "<init>"), (0, u "()V"), (0, .class_ 8), (0, u "com/example/orsay/orsay/SiblingPositions"), (0, .methodref 7 3), (0, .methodref 7 11), (0, .nameAndType 12 13), (0, u "next"), (0, u "(I)I"), (0, .methodref 7 15), (0, .nameAndType 16 6), (0, u "open"), (0, .methodref 7 18), (0, .nameAndType 19 6), (0, u "close"), (0, .class_ 21), (0, u "com/example/orsay/orsay/SiblingPositionsClosePinLaw"), (2, u "law"), (0, u "(IIIIII)Z")] 3

def k1m0 : Method := { name := "<init>", desc := "()V", sig := { parameters := [], returnType := none }, accessFlags := 1, code := none }
def k1c1 : Code := { maxStack := 4, maxLocals := 18, code := code, exceptionTable := #[], attributes := #[] }
def k1m1 : Method := { name := "law", desc := "(IIIIII)Z", sig := { parameters := [.int, .int, .int, .int, .int, .int], returnType := some .boolean }, accessFlags := 9, code := some k1c1 }
/-- com/example/orsay/orsay/SiblingPositionsClosePinLaw -/
def k1 : Class := { plain "com/example/orsay/orsay/SiblingPositionsClosePinLaw" (some 0) with
  accessFlags := 49
  interfaces := #[]
  cf := some (fileOf pool1 20 #[] #[{ accessFlags := 1, nameIndex := 5, descriptorIndex := 6, attributes := #[] }, { accessFlags := 9, nameIndex := 24, descriptorIndex := 25, attributes := #[] }] 49 2 #[] #[])
  fields := #[]
  methods := #[k1m0, k1m1]
  instanceTypes := #[]
  staticTypes := #[]
  resolved := Array.replicate 29 none
  statics := none }

def pool2 : Array CpInfo := pool [(1, .methodref 2 3), (0, .class_ 4), (0, .nameAndType 5 6), (0, u "java/lang/Object"), (0, u "<init>"), (0, u "()V"), (0, .fieldref 8 9), (0, .class_ 10), (0, .nameAndType 11 12), (0, u "com/example/orsay/orsay/SiblingPositions"), (0, u "innermostCount"), (0, u "[I"), (0, .fieldref 8 14), (0, .nameAndType 15 12), (0, u "countLabel"), (0, .fieldref 8 17), (0, .nameAndType 18 12), (0, u "countValue"), (0, .fieldref 8 20), (0, .nameAndType 21 12), (0, u "hiddenCount"), (0, .fieldref 8 23), (0, .nameAndType 24 12), (0, u "firstCount"), (0, .methodref 26 27), (0, .class_ 28), (0, .nameAndType 29 30), (0, u "java/lang/Math"), (0, u "max"), (0, u "(II)I"), (0, .methodref 32 33), (0, .class_ 34), (0, .nameAndType 35 36), (0, u "java/util/Arrays"), (0, u "copyOf"), (0, u "([II)[I"), (0, .methodref 32 38), (0, .nameAndType 39 40), (0, u "fill"), (0, u "([IIII)V"), (0, .fieldref 8 42), (0, .nameAndType 43 44), (0, u "depth"), (0, u "I"), (0, .methodref 8 46), (0, .nameAndType 47 48), (0, u "push"), (0, u "(I)V"), (0, .fieldref 8 50), (0, .nameAndType 51 44), (0, u "counts"), (0, u "NO_COUNT"), (2, u "INITIAL_CAPACITY"), (3, u "next"), (0, u "(I)I"), (1, u "open"), (0, u "close")] 2

def k2c0 : Code := { maxStack := 2, maxLocals := 1, code := prog_131_method_1_code, exceptionTable := #[], attributes := #[] }
def k2m0 : Method := { name := "<init>", desc := "()V", sig := { parameters := [], returnType := none }, accessFlags := 0, code := some k2c0 }
def k2c1 : Code := { maxStack := 5, maxLocals := 4, code := prog_131_method_2_code, exceptionTable := #[], attributes := #[] }
def k2m1 : Method := { name := "next", desc := "(I)I", sig := { parameters := [.int], returnType := some .int }, accessFlags := 0, code := some k2c1 }
def k2c2 : Code := { maxStack := 4, maxLocals := 1, code := prog_131_method_3_code, exceptionTable := #[], attributes := #[] }
def k2m2 : Method := { name := "open", desc := "()V", sig := { parameters := [], returnType := none }, accessFlags := 0, code := some k2c2 }
def k2c3 : Code := { maxStack := 4, maxLocals := 1, code := prog_131_method_4_code, exceptionTable := #[], attributes := #[] }
def k2m3 : Method := { name := "close", desc := "()V", sig := { parameters := [], returnType := none }, accessFlags := 0, code := some k2c3 }
def k2c4 : Code := { maxStack := 4, maxLocals := 3, code := prog_131_method_5_code, exceptionTable := #[], attributes := #[] }
def k2m4 : Method := { name := "push", desc := "(I)V", sig := { parameters := [.int], returnType := none }, accessFlags := 2, code := some k2c4 }
/-- com/example/orsay/orsay/SiblingPositions -/
def k2 : Class := { plain "com/example/orsay/orsay/SiblingPositions" (some 0) with
  accessFlags := 48
  interfaces := #[]
  cf := some (fileOf pool2 8 #[] #[{ accessFlags := 0, nameIndex := 5, descriptorIndex := 6, attributes := #[] }, { accessFlags := 0, nameIndex := 59, descriptorIndex := 60, attributes := #[] }, { accessFlags := 0, nameIndex := 62, descriptorIndex := 6, attributes := #[] }, { accessFlags := 0, nameIndex := 63, descriptorIndex := 6, attributes := #[] }, { accessFlags := 2, nameIndex := 47, descriptorIndex := 48, attributes := #[] }] 48 2 #[] #[{ accessFlags := 26, nameIndex := 52, descriptorIndex := 44, attributes := #[] }, { accessFlags := 26, nameIndex := 55, descriptorIndex := 44, attributes := #[] }, { accessFlags := 2, nameIndex := 11, descriptorIndex := 12, attributes := #[] }, { accessFlags := 2, nameIndex := 15, descriptorIndex := 12, attributes := #[] }, { accessFlags := 2, nameIndex := 18, descriptorIndex := 12, attributes := #[] }, { accessFlags := 2, nameIndex := 21, descriptorIndex := 12, attributes := #[] }, { accessFlags := 2, nameIndex := 51, descriptorIndex := 44, attributes := #[] }, { accessFlags := 2, nameIndex := 24, descriptorIndex := 12, attributes := #[] }, { accessFlags := 2, nameIndex := 43, descriptorIndex := 44, attributes := #[] }])
  fields := #[{ name := "NO_COUNT", type := .int, accessFlags := 26, slot := 0, constantValue := 0 }, { name := "INITIAL_CAPACITY", type := .int, accessFlags := 26, slot := 1, constantValue := 0 }, { name := "innermostCount", type := (.array .int), accessFlags := 2, slot := 0, constantValue := 0 }, { name := "countLabel", type := (.array .int), accessFlags := 2, slot := 1, constantValue := 0 }, { name := "countValue", type := (.array .int), accessFlags := 2, slot := 2, constantValue := 0 }, { name := "hiddenCount", type := (.array .int), accessFlags := 2, slot := 3, constantValue := 0 }, { name := "counts", type := .int, accessFlags := 2, slot := 4, constantValue := 0 }, { name := "firstCount", type := (.array .int), accessFlags := 2, slot := 5, constantValue := 0 }, { name := "depth", type := .int, accessFlags := 2, slot := 6, constantValue := 0 }]
  methods := #[k2m0, k2m1, k2m2, k2m3, k2m4]
  instanceTypes := #[(.array .int), (.array .int), (.array .int), (.array .int), .int, (.array .int), .int]
  staticTypes := #[.int, .int]
  resolved := Array.replicate 66 none
  statics := none }

def pool3 : Array CpInfo := pool [(1, .class_ 2), (0, u "java/lang/Math"), (1, .class_ 6), (1, u "java/lang/Object"), (0, u "<init>"), (0, u "()V"), (89, .class_ 100), (1, u "java/lang/Math$RandomNumberGeneratorHolder"), (71, u "negativeZeroFloatBits"), (0, u "J"), (2, u "negativeZeroDoubleBits"), (21, u "max"), (2, u "min"), (43, u "$assertionsDisabled"), (0, u "Z"), (88, u "(II)I"), (2, u "twoToTheDoubleScaleDown"), (0, u "D"), (4, u "twoToTheDoubleScaleUp"), (9, u "E"), (3, u "PI"), (2, u "TAU"), (2, u "DEGREES_TO_RADIANS"), (0, u "RADIANS_TO_DEGREES")] 94

def k3m0 : Method := { name := "<init>", desc := "()V", sig := { parameters := [], returnType := none }, accessFlags := 2, code := none }
def k3c1 : Code := { maxStack := 2, maxLocals := 2, code := jdk_29_method_65_code, exceptionTable := #[], attributes := #[] }
def k3m1 : Method := { name := "max", desc := "(II)I", sig := { parameters := [.int, .int], returnType := some .int }, accessFlags := 9, code := some k3c1 }
def k3c2 : Code := { maxStack := 2, maxLocals := 2, code := jdk_29_method_69_code, exceptionTable := #[], attributes := #[] }
def k3m2 : Method := { name := "min", desc := "(II)I", sig := { parameters := [.int, .int], returnType := some .int }, accessFlags := 9, code := some k3c2 }
/-- java/lang/Math -/
def k3 : Class := { plain "java/lang/Math" (some 0) with
  accessFlags := 49
  interfaces := #[]
  cf := some (fileOf pool3 1 #[.nestMembers #[98]] #[{ accessFlags := 2, nameIndex := 7, descriptorIndex := 8, attributes := #[] }, { accessFlags := 9, nameIndex := 198, descriptorIndex := 335, attributes := #[] }, { accessFlags := 9, nameIndex := 201, descriptorIndex := 335, attributes := #[] }] 49 4 #[] #[{ accessFlags := 25, nameIndex := 354, descriptorIndex := 339, attributes := #[] }, { accessFlags := 25, nameIndex := 358, descriptorIndex := 339, attributes := #[] }, { accessFlags := 25, nameIndex := 361, descriptorIndex := 339, attributes := #[] }, { accessFlags := 26, nameIndex := 364, descriptorIndex := 339, attributes := #[] }, { accessFlags := 26, nameIndex := 365, descriptorIndex := 339, attributes := #[] }, { accessFlags := 26, nameIndex := 172, descriptorIndex := 173, attributes := #[] }, { accessFlags := 26, nameIndex := 176, descriptorIndex := 173, attributes := #[] }, { accessFlags := 8, nameIndex := 344, descriptorIndex := 339, attributes := #[] }, { accessFlags := 8, nameIndex := 338, descriptorIndex := 339, attributes := #[] }, { accessFlags := 4120, nameIndex := 245, descriptorIndex := 246, attributes := #[] }])
  fields := #[{ name := "E", type := .double, accessFlags := 25, slot := 0, constantValue := 0 }, { name := "PI", type := .double, accessFlags := 25, slot := 1, constantValue := 0 }, { name := "TAU", type := .double, accessFlags := 25, slot := 2, constantValue := 0 }, { name := "DEGREES_TO_RADIANS", type := .double, accessFlags := 26, slot := 3, constantValue := 0 }, { name := "RADIANS_TO_DEGREES", type := .double, accessFlags := 26, slot := 4, constantValue := 0 }, { name := "negativeZeroFloatBits", type := .long, accessFlags := 26, slot := 5, constantValue := 0 }, { name := "negativeZeroDoubleBits", type := .long, accessFlags := 26, slot := 6, constantValue := 0 }, { name := "twoToTheDoubleScaleUp", type := .double, accessFlags := 8, slot := 7, constantValue := 0 }, { name := "twoToTheDoubleScaleDown", type := .double, accessFlags := 8, slot := 8, constantValue := 0 }, { name := "$assertionsDisabled", type := .boolean, accessFlags := 4120, slot := 9, constantValue := 0 }]
  methods := #[k3m0, k3m1, k3m2]
  instanceTypes := #[]
  staticTypes := #[.double, .double, .double, .double, .double, .long, .long, .double, .double, .boolean]
  resolved := Array.replicate 460 none
  statics := none }

def pool4 : Array CpInfo := pool [(2, .class_ 4), (1, u "java/lang/Object"), (0, u "<init>"), (0, u "()V"), (5, u "([IIII)V"), (0, .methodref 14 15), (0, .class_ 16), (0, .nameAndType 17 18), (0, u "java/util/Arrays"), (0, u "rangeCheck"), (0, u "(III)V"), (55, .class_ 76), (1, u "java/util/Arrays$NaturalOrder"), (36, .class_ 115), (1, u "java/util/Arrays$LegacyMergeSort"), (1, u "Z"), (32, .methodref 151 152), (0, .class_ 153), (0, .nameAndType 154 155), (0, u "java/lang/System"), (0, u "arraycopy"), (0, u "(Ljava/lang/Object;ILjava/lang/Object;II)V"), (146, u "copyOf"), (1, .methodref 305 306), (0, .class_ 307), (0, .nameAndType 308 309), (0, u "java/lang/Math"), (0, u "min"), (0, u "(II)I"), (65, .class_ 376), (0, u "java/util/Arrays$ArrayList"), (68, u "$assertionsDisabled"), (269, u "MIN_ARRAY_SORT_GRAN"), (0, u "I"), (2, u "INSERTIONSORT_THRESHOLD"), (120, u "fill"), (30, u "([II)[I"), (103, .class_ 976), (0, u "java/util/Arrays$ArrayItr")] 52

def k4m0 : Method := { name := "<init>", desc := "()V", sig := { parameters := [], returnType := none }, accessFlags := 2, code := none }
def k4c1 : Code := { maxStack := 4, maxLocals := 3, code := jdk_65_method_30_code, exceptionTable := #[], attributes := #[] }
def k4m1 : Method := { name := "rangeCheck", desc := "(III)V", sig := { parameters := [.int, .int, .int], returnType := none }, accessFlags := 8, code := some k4c1 }
def k4c2 : Code := { maxStack := 3, maxLocals := 5, code := jdk_65_method_104_code, exceptionTable := #[], attributes := #[] }
def k4m2 : Method := { name := "fill", desc := "([IIII)V", sig := { parameters := [(.array .int), .int, .int, .int], returnType := none }, accessFlags := 9, code := some k4c2 }
def k4c3 : Code := { maxStack := 6, maxLocals := 3, code := jdk_65_method_123_code, exceptionTable := #[], attributes := #[] }
def k4m3 : Method := { name := "copyOf", desc := "([II)[I", sig := { parameters := [(.array .int), .int], returnType := some (.array .int) }, accessFlags := 9, code := some k4c3 }
/-- java/util/Arrays -/
def k4 : Class := { plain "java/util/Arrays" (some 0) with
  accessFlags := 49
  interfaces := #[]
  cf := some (fileOf pool4 14 #[.nestMembers #[975, 375, 113, 74]] #[{ accessFlags := 2, nameIndex := 5, descriptorIndex := 6, attributes := #[] }, { accessFlags := 8, nameIndex := 17, descriptorIndex := 18, attributes := #[] }, { accessFlags := 9, nameIndex := 840, descriptorIndex := 12, attributes := #[] }, { accessFlags := 9, nameIndex := 302, descriptorIndex := 871, attributes := #[] }] 49 2 #[] #[{ accessFlags := 26, nameIndex := 715, descriptorIndex := 716, attributes := #[] }, { accessFlags := 26, nameIndex := 719, descriptorIndex := 716, attributes := #[] }, { accessFlags := 4120, nameIndex := 445, descriptorIndex := 117, attributes := #[] }])
  fields := #[{ name := "MIN_ARRAY_SORT_GRAN", type := .int, accessFlags := 26, slot := 0, constantValue := 0 }, { name := "INSERTIONSORT_THRESHOLD", type := .int, accessFlags := 26, slot := 1, constantValue := 0 }, { name := "$assertionsDisabled", type := .boolean, accessFlags := 4120, slot := 2, constantValue := 0 }]
  methods := #[k4m0, k4m1, k4m2, k4m3]
  instanceTypes := #[]
  staticTypes := #[.int, .int, .boolean]
  resolved := Array.replicate 1029 none
  statics := none }

def pool5 : Array CpInfo := pool [(2, .class_ 4), (1, u "java/lang/Object"), (0, u "<init>"), (0, u "()V"), (1, .class_ 10), (1, u "java/lang/System"), (0, u "allowSecurityManager"), (0, u "I"), (16, u "cons"), (0, u "Ljava/io/Console;"), (77, .class_ 110), (1, u "java/lang/System$CallersHolder"), (43, u "initialErrStream"), (0, u "Ljava/io/PrintStream;"), (19, u "security"), (0, u "Ljava/lang/SecurityManager;"), (31, .class_ 209), (0, u "java/lang/System$1"), (7, u "props"), (0, u "Ljava/util/Properties;"), (2, u "lineSeparator"), (0, u "Ljava/lang/String;"), (96, .class_ 321), (1, u "java/lang/System$LoggerFinder"), (5, .class_ 328), (0, u "java/lang/System$Logger"), (67, u "err"), (2, u "out"), (91, u "notSupportedJnuEncoding"), (15, u "in"), (17, u "initialIn"), (0, u "Ljava/io/InputStream;"), (35, u "bootLayer"), (0, u "Ljava/lang/ModuleLayer;"), (99, .class_ 664), (0, u "java/lang/System$2"), (9, u "NEVER"), (2, u "MAYBE"), (49, u "arraycopy"), (0, u "(Ljava/lang/Object;ILjava/lang/Object;II)V"), (72, .class_ 802), (0, u "java/lang/System$Logger$Level")] 31

def k5m0 : Method := { name := "<init>", desc := "()V", sig := { parameters := [], returnType := none }, accessFlags := 2, code := none }
def k5m1 : Method := { name := "arraycopy", desc := "(Ljava/lang/Object;ILjava/lang/Object;II)V", sig := { parameters := [(.object "java/lang/Object"), .int, (.object "java/lang/Object"), .int, .int], returnType := none }, accessFlags := 265, code := none }
/-- java/lang/System -/
def k5 : Class := { plain "java/lang/System" (some 0) with
  accessFlags := 49
  interfaces := #[]
  cf := some (fileOf pool5 8 #[.nestMembers #[319, 327, 801, 108, 663, 208]] #[{ accessFlags := 2, nameIndex := 5, descriptorIndex := 6, attributes := #[] }, { accessFlags := 265, nameIndex := 727, descriptorIndex := 728, attributes := #[] }] 49 2 #[] #[{ accessFlags := 25, nameIndex := 507, descriptorIndex := 526, attributes := #[] }, { accessFlags := 25, nameIndex := 399, descriptorIndex := 155, attributes := #[] }, { accessFlags := 25, nameIndex := 396, descriptorIndex := 155, attributes := #[] }, { accessFlags := 10, nameIndex := 525, descriptorIndex := 526, attributes := #[] }, { accessFlags := 26, nameIndex := 674, descriptorIndex := 12, attributes := #[] }, { accessFlags := 26, nameIndex := 677, descriptorIndex := 12, attributes := #[] }, { accessFlags := 10, nameIndex := 11, descriptorIndex := 12, attributes := #[] }, { accessFlags := 74, nameIndex := 175, descriptorIndex := 176, attributes := #[] }, { accessFlags := 10, nameIndex := 491, descriptorIndex := 222, attributes := #[] }, { accessFlags := 74, nameIndex := 29, descriptorIndex := 30, attributes := #[] }, { accessFlags := 74, nameIndex := 154, descriptorIndex := 155, attributes := #[] }, { accessFlags := 10, nameIndex := 217, descriptorIndex := 218, attributes := #[] }, { accessFlags := 10, nameIndex := 221, descriptorIndex := 222, attributes := #[] }, { accessFlags := 8, nameIndex := 562, descriptorIndex := 563, attributes := #[] }])
  fields := #[{ name := "in", type := (.object "java/io/InputStream"), accessFlags := 25, slot := 0, constantValue := 0 }, { name := "out", type := (.object "java/io/PrintStream"), accessFlags := 25, slot := 1, constantValue := 0 }, { name := "err", type := (.object "java/io/PrintStream"), accessFlags := 25, slot := 2, constantValue := 0 }, { name := "initialIn", type := (.object "java/io/InputStream"), accessFlags := 10, slot := 3, constantValue := 0 }, { name := "NEVER", type := .int, accessFlags := 26, slot := 4, constantValue := 0 }, { name := "MAYBE", type := .int, accessFlags := 26, slot := 5, constantValue := 0 }, { name := "allowSecurityManager", type := .int, accessFlags := 10, slot := 6, constantValue := 0 }, { name := "security", type := (.object "java/lang/SecurityManager"), accessFlags := 74, slot := 7, constantValue := 0 }, { name := "notSupportedJnuEncoding", type := (.object "java/lang/String"), accessFlags := 10, slot := 8, constantValue := 0 }, { name := "cons", type := (.object "java/io/Console"), accessFlags := 74, slot := 9, constantValue := 0 }, { name := "initialErrStream", type := (.object "java/io/PrintStream"), accessFlags := 74, slot := 10, constantValue := 0 }, { name := "props", type := (.object "java/util/Properties"), accessFlags := 10, slot := 11, constantValue := 0 }, { name := "lineSeparator", type := (.object "java/lang/String"), accessFlags := 10, slot := 12, constantValue := 0 }, { name := "bootLayer", type := (.object "java/lang/ModuleLayer"), accessFlags := 8, slot := 13, constantValue := 0 }]
  methods := #[k5m0, k5m1]
  instanceTypes := #[]
  staticTypes := #[(.object "java/io/InputStream"), (.object "java/io/PrintStream"), (.object "java/io/PrintStream"), (.object "java/io/InputStream"), .int, .int, .int, (.object "java/lang/SecurityManager"), (.object "java/lang/String"), (.object "java/io/Console"), (.object "java/io/PrintStream"), (.object "java/util/Properties"), (.object "java/lang/String"), (.object "java/lang/ModuleLayer")]
  resolved := Array.replicate 834 none
  statics := none }

def pool6 : Array CpInfo := pool [(1, u "java/lang/Cloneable"), (0, .class_ 1), (0, u "java/lang/Object"), (0, .class_ 3)] 3

/-- java/lang/Cloneable -/
def k6 : Class := { plain "java/lang/Cloneable" (some 0) with
  accessFlags := 1537
  interfaces := #[]
  cf := some (fileOf pool6 2 #[] #[] 1537 4 #[] #[])
  fields := #[]
  methods := #[]
  instanceTypes := #[]
  staticTypes := #[]
  resolved := Array.replicate 8 none
  statics := none }

def pool7 : Array CpInfo := pool [(1, u "java/io/Serializable"), (0, .class_ 1), (0, u "java/lang/Object"), (0, .class_ 3)] 3

/-- java/io/Serializable -/
def k7 : Class := { plain "java/io/Serializable" (some 0) with
  accessFlags := 1537
  interfaces := #[]
  cf := some (fileOf pool7 2 #[] #[] 1537 4 #[] #[])
  fields := #[]
  methods := #[]
  instanceTypes := #[]
  staticTypes := #[]
  resolved := Array.replicate 8 none
  statics := none }

/-- the primitive byte -/
def k8 : Class := { plain "byte" none with kind := .primitive 'B', accessFlags := 0x411 }
/-- [B -/
def k9 : Class := { plain "[B" (some 0) with kind := .array 8 .byte, interfaces := #[6, 7], accessFlags := 1041 }

/-- the primitive int -/
def k10 : Class := { plain "int" none with kind := .primitive 'I', accessFlags := 0x411 }
/-- [I -/
def k11 : Class := { plain "[I" (some 0) with kind := .array 10 .int, interfaces := #[6, 7], accessFlags := 1041 }

def heap : Heap := #[]
def classes : Array Class := #[k0, k1, k2, k3, k4, k5, k6, k7, k8, k9, k10, k11]
def interned : List (Array UInt16 × Addr) := []
def slotsUsed : Nat := 0
def theMethod : MethodId := ⟨1, 1⟩
def args0 : Array Value := #[.int 5, .int 6, .int 1, .int 1, .int 4, .int 2]
def aboutOver (below : List Frame) : State where
  vm := { classes := classes, interned := interned.toArray }
  heap := heap
  slotsUsed := slotsUsed
  threads := #[{ frames := .invoking theMethod args0 :: below }]
def below0 : List Frame := [.native { method := ⟨0, 0⟩, args := #[] }]
def about1 : State := aboutOver below0
def p0 : Program := .bare "" "" ""
def e0 : Env := launch0.env 0 0 0
theorem w_frames : about1.frames = Frame.invoking theMethod args0 :: below0 := rfl
set_option maxRecDepth 65536 in
theorem w_args : argsFit about1.vm theMethod args0 = true := by decide +kernel
set_option maxRecDepth 65536 in
theorem w_heap : heapFits about1 = true := by decide +kernel
set_option maxRecDepth 65536 in
theorem w_runnable : about1.curStatus? = some .runnable := by decide +kernel
set_option maxRecDepth 65536 in
theorem w_alone : about1.alone = true := by decide +kernel
set_option maxRecDepth 65536 in
theorem w_named : about1.methodNamed? x = some theMethod := by decide +kernel
set_option maxRecDepth 65536 in
theorem w_hears : about1.hears theMethod below0 = true := by decide +kernel
set_option maxRecDepth 65536 in
theorem w_ripe : about1.ripe theMethod args0 below0 = true := by decide +kernel
theorem w_running : about1.status = .running := rfl
set_option maxRecDepth 65536 in
theorem w_room : about1.hasRoom e0.platform room_1 = true :=
  launch0.hasRoom_least _ room_1 (by decide +kernel) (by decide +kernel) (by decide +kernel) (by decide +kernel) (by decide +kernel) (by decide +kernel)
theorem allAtoms_all (ts : List Jvm.Cond) (a : Array Jvm.Value) (st : Jvm.State) : (allAtoms ts).before a st = ts.all (fun c => c.before a st) := by
  induction ts with
  | nil => rfl
  | cons c t ih =>
    show (Jvm.Cond.and c (allAtoms t)).before a st = _
    rw [Jvm.Cond.before_and, ih, List.all_cons]
def words1 : List Jvm.Cond := Jvm.Cond.code x code maxLocals ret :: tables_1
/-- a 'code' word, met by the world's own term for the bytes: nothing is compared byte by byte -/
theorem code_word {y : MethodName} {bytes : ByteArray} {mx : Nat} {rt : Option FieldType} {a : Array Value} {s : State} {m : MethodId} {meth : Method} {c : Code} (h1 : s.methodNamed? y = some m) (h2 : s.vm.method? m = some meth) (h3 : meth.code = some c) (h4 : c.code = bytes)
    (h5 : (c.maxLocals == mx && c.exceptionTable.isEmpty && decide (c.maxStack ≤ mostOperands) && decide (meth.sig.returnType = rt) && !meth.locks && decide (parseMethodDescriptor y.desc = some meth.sig)) = true) : (Jvm.Cond.code y bytes mx rt).before a s = true := by
  simp only [Bool.and_eq_true, beq_iff_eq, Bool.not_eq_true', decide_eq_true_eq] at h5
  obtain ⟨⟨⟨⟨⟨g1, g2⟩, g3⟩, g4⟩, g5⟩, g6⟩ := h5
  simp [Cond.before, Cond.holds, Cond.value, h1, h2, h3, h4, g1, g2, g3, g4, g5, g6]
def isCode : Jvm.Cond → Bool
  | .code _ _ _ _ => true
  | _ => false
theorem all_split {L : List Jvm.Cond} {P : Jvm.Cond → Bool} (h1 : L.all (fun c => isCode c || P c) = true) (h2 : ∀ c ∈ L.filter isCode, P c = true) : L.all P = true := by
  refine List.all_eq_true.mpr fun c hc => ?_
  have h := List.all_eq_true.mp h1 c hc
  rcases Bool.eq_false_or_eq_true (isCode c) with hi | hi
  · exact h2 c (List.mem_filter.mpr ⟨hc, hi⟩)
  · simpa [hi] using h
set_option maxRecDepth 65536 in
theorem w_c0 : (Jvm.Cond.code x code maxLocals ret).before args0 about1 = true := code_word (m := ⟨1, 1⟩) (meth := k1m1) (c := k1c1) (by decide +kernel) rfl rfl rfl (by decide +kernel)
set_option maxRecDepth 65536 in
theorem w_c1 : (Jvm.Cond.code ({ cls := "com/example/orsay/orsay/SiblingPositions", name := "<init>", desc := "()V" } : Jvm.MethodName) prog_131_method_1_code (1 : Nat) (Option.none : Option Jvm.ClassFile.FieldType)).before args0 about1 = true := code_word (m := ⟨2, 0⟩) (meth := k2m0) (c := k2c0) (by decide +kernel) rfl rfl rfl (by decide +kernel)
set_option maxRecDepth 65536 in
theorem w_c2 : (Jvm.Cond.code ({ cls := "java/lang/Object", name := "<init>", desc := "()V" } : Jvm.MethodName) object_method_1_code (1 : Nat) (Option.none : Option Jvm.ClassFile.FieldType)).before args0 about1 = true := code_word (m := ⟨0, 0⟩) (meth := k0m0) (c := k0c0) (by decide +kernel) rfl rfl rfl (by decide +kernel)
set_option maxRecDepth 65536 in
theorem w_c3 : (Jvm.Cond.code ({ cls := "com/example/orsay/orsay/SiblingPositions", name := "next", desc := "(I)I" } : Jvm.MethodName) prog_131_method_2_code (4 : Nat) (Option.some Jvm.ClassFile.FieldType.int)).before args0 about1 = true := code_word (m := ⟨2, 1⟩) (meth := k2m1) (c := k2c1) (by decide +kernel) rfl rfl rfl (by decide +kernel)
set_option maxRecDepth 65536 in
theorem w_c4 : (Jvm.Cond.code ({ cls := "java/lang/Math", name := "max", desc := "(II)I" } : Jvm.MethodName) jdk_29_method_65_code (2 : Nat) (Option.some Jvm.ClassFile.FieldType.int)).before args0 about1 = true := code_word (m := ⟨3, 1⟩) (meth := k3m1) (c := k3c1) (by decide +kernel) rfl rfl rfl (by decide +kernel)
set_option maxRecDepth 65536 in
theorem w_c5 : (Jvm.Cond.code ({ cls := "java/util/Arrays", name := "copyOf", desc := "([II)[I" } : Jvm.MethodName) jdk_65_method_123_code (3 : Nat) (Option.some (Jvm.ClassFile.FieldType.array Jvm.ClassFile.FieldType.int))).before args0 about1 = true := code_word (m := ⟨4, 3⟩) (meth := k4m3) (c := k4c3) (by decide +kernel) rfl rfl rfl (by decide +kernel)
set_option maxRecDepth 65536 in
theorem w_c6 : (Jvm.Cond.code ({ cls := "java/lang/Math", name := "min", desc := "(II)I" } : Jvm.MethodName) jdk_29_method_69_code (2 : Nat) (Option.some Jvm.ClassFile.FieldType.int)).before args0 about1 = true := code_word (m := ⟨3, 2⟩) (meth := k3m2) (c := k3c2) (by decide +kernel) rfl rfl rfl (by decide +kernel)
set_option maxRecDepth 65536 in
theorem w_c7 : (Jvm.Cond.code ({ cls := "java/util/Arrays", name := "fill", desc := "([IIII)V" } : Jvm.MethodName) jdk_65_method_104_code (5 : Nat) (Option.none : Option Jvm.ClassFile.FieldType)).before args0 about1 = true := code_word (m := ⟨4, 2⟩) (meth := k4m2) (c := k4c2) (by decide +kernel) rfl rfl rfl (by decide +kernel)
set_option maxRecDepth 65536 in
theorem w_c8 : (Jvm.Cond.code ({ cls := "java/util/Arrays", name := "rangeCheck", desc := "(III)V" } : Jvm.MethodName) jdk_65_method_30_code (3 : Nat) (Option.none : Option Jvm.ClassFile.FieldType)).before args0 about1 = true := code_word (m := ⟨4, 1⟩) (meth := k4m1) (c := k4c1) (by decide +kernel) rfl rfl rfl (by decide +kernel)
set_option maxRecDepth 65536 in
theorem w_c9 : (Jvm.Cond.code ({ cls := "com/example/orsay/orsay/SiblingPositions", name := "push", desc := "(I)V" } : Jvm.MethodName) prog_131_method_5_code (3 : Nat) (Option.none : Option Jvm.ClassFile.FieldType)).before args0 about1 = true := code_word (m := ⟨2, 4⟩) (meth := k2m4) (c := k2c4) (by decide +kernel) rfl rfl rfl (by decide +kernel)
set_option maxRecDepth 65536 in
theorem w_c10 : (Jvm.Cond.code ({ cls := "com/example/orsay/orsay/SiblingPositions", name := "open", desc := "()V" } : Jvm.MethodName) prog_131_method_3_code (1 : Nat) (Option.none : Option Jvm.ClassFile.FieldType)).before args0 about1 = true := code_word (m := ⟨2, 2⟩) (meth := k2m2) (c := k2c2) (by decide +kernel) rfl rfl rfl (by decide +kernel)
set_option maxRecDepth 65536 in
theorem w_c11 : (Jvm.Cond.code ({ cls := "com/example/orsay/orsay/SiblingPositions", name := "close", desc := "()V" } : Jvm.MethodName) prog_131_method_4_code (1 : Nat) (Option.none : Option Jvm.ClassFile.FieldType)).before args0 about1 = true := code_word (m := ⟨2, 3⟩) (meth := k2m3) (c := k2c3) (by decide +kernel) rfl rfl rfl (by decide +kernel)
def codes1 : List Jvm.Cond := [Jvm.Cond.code x code maxLocals ret, Jvm.Cond.code ({ cls := "com/example/orsay/orsay/SiblingPositions", name := "<init>", desc := "()V" } : Jvm.MethodName) prog_131_method_1_code (1 : Nat) (Option.none : Option Jvm.ClassFile.FieldType), Jvm.Cond.code ({ cls := "java/lang/Object", name := "<init>", desc := "()V" } : Jvm.MethodName) object_method_1_code (1 : Nat) (Option.none : Option Jvm.ClassFile.FieldType), Jvm.Cond.code ({ cls := "com/example/orsay/orsay/SiblingPositions", name := "next", desc := "(I)I" } : Jvm.MethodName) prog_131_method_2_code (4 : Nat) (Option.some Jvm.ClassFile.FieldType.int), Jvm.Cond.code ({ cls := "java/lang/Math", name := "max", desc := "(II)I" } : Jvm.MethodName) jdk_29_method_65_code (2 : Nat) (Option.some Jvm.ClassFile.FieldType.int), Jvm.Cond.code ({ cls := "java/util/Arrays", name := "copyOf", desc := "([II)[I" } : Jvm.MethodName) jdk_65_method_123_code (3 : Nat) (Option.some (Jvm.ClassFile.FieldType.array Jvm.ClassFile.FieldType.int)), Jvm.Cond.code ({ cls := "java/lang/Math", name := "min", desc := "(II)I" } : Jvm.MethodName) jdk_29_method_69_code (2 : Nat) (Option.some Jvm.ClassFile.FieldType.int), Jvm.Cond.code ({ cls := "java/util/Arrays", name := "fill", desc := "([IIII)V" } : Jvm.MethodName) jdk_65_method_104_code (5 : Nat) (Option.none : Option Jvm.ClassFile.FieldType), Jvm.Cond.code ({ cls := "java/util/Arrays", name := "rangeCheck", desc := "(III)V" } : Jvm.MethodName) jdk_65_method_30_code (3 : Nat) (Option.none : Option Jvm.ClassFile.FieldType), Jvm.Cond.code ({ cls := "com/example/orsay/orsay/SiblingPositions", name := "push", desc := "(I)V" } : Jvm.MethodName) prog_131_method_5_code (3 : Nat) (Option.none : Option Jvm.ClassFile.FieldType), Jvm.Cond.code ({ cls := "com/example/orsay/orsay/SiblingPositions", name := "open", desc := "()V" } : Jvm.MethodName) prog_131_method_3_code (1 : Nat) (Option.none : Option Jvm.ClassFile.FieldType), Jvm.Cond.code ({ cls := "com/example/orsay/orsay/SiblingPositions", name := "close", desc := "()V" } : Jvm.MethodName) prog_131_method_4_code (1 : Nat) (Option.none : Option Jvm.ClassFile.FieldType)]
set_option maxRecDepth 65536 in
theorem codes_eq : words1.filter isCode = codes1 := rfl
theorem w_codes : ∀ c ∈ words1.filter isCode, c.before args0 about1 = true := by
  rw [codes_eq]
  intro c hc
  simp only [codes1, List.mem_cons, List.not_mem_nil, or_false] at hc
  rcases hc with rfl | rfl | rfl | rfl | rfl | rfl | rfl | rfl | rfl | rfl | rfl | rfl
  · exact w_c0
  · exact w_c1
  · exact w_c2
  · exact w_c3
  · exact w_c4
  · exact w_c5
  · exact w_c6
  · exact w_c7
  · exact w_c8
  · exact w_c9
  · exact w_c10
  · exact w_c11
set_option maxRecDepth 65536 in
theorem w_t1 : (words1.take 24).all (fun c => isCode c || c.before args0 about1) = true := by decide +kernel
set_option maxRecDepth 65536 in
theorem w_t2 : ((words1.drop 24).take 24).all (fun c => isCode c || c.before args0 about1) = true := by decide +kernel
set_option maxRecDepth 65536 in
theorem w_t3 : ((words1.drop 24).drop 24).all (fun c => isCode c || c.before args0 about1) = true := by decide +kernel
theorem w_tables : (allAtoms (Jvm.Cond.code x code maxLocals ret :: tables_1)).before args0 about1 = true := by
  rw [allAtoms_all]
  show words1.all (fun c => c.before args0 about1) = true
  refine all_split ?_ w_codes
  rw [← List.take_append_drop 24 words1, List.all_append, w_t1, ← List.take_append_drop 24 (words1.drop 24), List.all_append, w_t2, w_t3]
  rfl
set_option maxRecDepth 65536 in
theorem w_case : (Jvm.Cond.and given_1 narrow_1).before args0 about1 = true := by decide +kernel
theorem w_applies : (headSpec (Jvm.Cond.code x code maxLocals ret :: tables_1) room_1).applies x e0.platform about1 = true :=
  (Spec.applies_iff w_frames).mpr ⟨w_running, w_runnable, w_alone, w_named, w_hears, w_ripe, w_room, w_tables⟩
theorem atStart : AtStart classFile x code maxLocals ret World_1 tables_1 room_1 Calls_1 rest_1 Pre_1 launch0 p0 e0 about1 theMethod args0 below0 :=
  ⟨lists_1, trivial, launch0.admits_env _ _ _, launch0.least_env, fairChoices_fair.cas, fairChoices_fair.clock, w_frames, w_args, w_heap, w_applies, trivial, trivial, w_case⟩
end start1
theorem witness_1 : WitnessClaimed_1 := ⟨start1.p0, start1.e0, start1.about1, start1.theMethod, start1.args0, start1.below0, start1.atStart⟩
end Jvm.Pilot.@@N@@
