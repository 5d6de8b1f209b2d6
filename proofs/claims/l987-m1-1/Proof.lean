import JvmDerived
import JvmDerived.Pilot.@@N@@Statement
import JvmDerived.Pilot.@@N@@Code
set_option linter.unusedVariables false
set_option linter.unusedSimpArgs false
@@BLOCK:NumsL.lean.txt@@
namespace Jvm.RoadKit
open Sem ClassFile Op Lib Jvm.Stand Jvm.Free Jvm.LawKit
section New
variable {p : Program} {l : Launch} {e : Env} {R : Room} {s : State} {m : MethodId} {args : Array Value} {below : List Frame} {meth : Method} {c : Code} {T : State} {locs : List Loc} {cells slots : Nat}
theorem retI (X : Stand p l e R s m args below meth c T locs cells slots) (hx : p.tables.exec = Jvm.exec) {pc : Nat} {Ls : Array Slot} {z : Int32} {rest : List Value} (hret : meth.sig.returnType = some .int) (hd : decode c.code pc = .ok (.ireturn, 1)) {fs : List Frame}
    (hl : ∀ (f : JFrame) (acts : List Action), f.method = m → f.locked = none → f.entered = [] → (doReturn e (T.setTop f) acts (some (.int z))).1 = T.setFrames fs) : Steps p.tables e below (T.setTop (mkF m pc Ls (.int z :: rest))) (T.setFrames fs) := by
  have hm' : T.vm.method? m = some meth := X.method'
  have hn : narrow .int (.int z) = .int z := rfl
  show Steps p.tables e below (T.setTop { method := m, pc := pc, locals := Ls, stack := _ :: rest, locked := none }) _
  jvm_step X.here [X.here.top, hx, hd, hm', hret, hn]
  first | (intro acts; rw [hl _ acts rfl rfl rfl]) | rw [hl _ _ rfl rfl rfl]
  exact Steps.refl _
end New
end Jvm.RoadKit
@@BLOCK:LamKit.lean.txt@@
namespace Jvm.Pilot.@@N@@
open Jvm Jvm.ClassFile Sem Op Lib Jvm.Free Jvm.Stand Jvm.LawKit Jvm.RoadKit Bundle Jvm.Pilot.@@N@@.Jvm.D
/-! own text: ints, longs and branches in plain integers -/
theorem own_h_eq (x : Int32) : (ifCond.holds .eq x = true) ↔ x.toInt = 0 := by
  simp only [ifCond.holds, beq_iff_eq, ← Int32.toInt_inj, Int32.toInt_zero]
theorem own_h_ne (x : Int32) : (ifCond.holds .ne x = true) ↔ x.toInt ≠ 0 := by
  simp only [ifCond.holds, bne_iff_ne, ne_eq, ← Int32.toInt_inj, Int32.toInt_zero]
theorem own_h_lt (x : Int32) : (ifCond.holds .lt x = true) ↔ x.toInt < 0 := by
  simp only [ifCond.holds, decide_eq_true_eq, Int32.lt_iff_toInt_lt, Int32.toInt_zero]
theorem own_h_ge (x : Int32) : (ifCond.holds .ge x = true) ↔ 0 ≤ x.toInt := by
  simp only [ifCond.holds, decide_eq_true_eq, ge_iff_le, Int32.le_iff_toInt_le, Int32.toInt_zero]
theorem own_h_gt (x : Int32) : (ifCond.holds .gt x = true) ↔ 0 < x.toInt := by
  simp only [ifCond.holds, decide_eq_true_eq, gt_iff_lt, Int32.lt_iff_toInt_lt, Int32.toInt_zero]
theorem own_h_le (x : Int32) : (ifCond.holds .le x = true) ↔ x.toInt ≤ 0 := by
  simp only [ifCond.holds, decide_eq_true_eq, Int32.le_iff_toInt_le, Int32.toInt_zero]
theorem own_c_eq (x y : Int32) : (if_icmp.holds .eq x y = true) ↔ x.toInt = y.toInt := by
  simp only [if_icmp.holds, beq_iff_eq, ← Int32.toInt_inj]
theorem own_c_ne (x y : Int32) : (if_icmp.holds .ne x y = true) ↔ x.toInt ≠ y.toInt := by
  simp only [if_icmp.holds, bne_iff_ne, ne_eq, ← Int32.toInt_inj]
theorem own_c_lt (x y : Int32) : (if_icmp.holds .lt x y = true) ↔ x.toInt < y.toInt := by
  simp only [if_icmp.holds, decide_eq_true_eq, Int32.lt_iff_toInt_lt]
theorem own_c_ge (x y : Int32) : (if_icmp.holds .ge x y = true) ↔ y.toInt ≤ x.toInt := by
  simp only [if_icmp.holds, decide_eq_true_eq, ge_iff_le, Int32.le_iff_toInt_le]
theorem own_c_gt (x y : Int32) : (if_icmp.holds .gt x y = true) ↔ y.toInt < x.toInt := by
  simp only [if_icmp.holds, decide_eq_true_eq, gt_iff_lt, Int32.lt_iff_toInt_lt]
theorem own_c_le (x y : Int32) : (if_icmp.holds .le x y = true) ↔ x.toInt ≤ y.toInt := by
  simp only [if_icmp.holds, decide_eq_true_eq, Int32.le_iff_toInt_le]
theorem own_L (x y : Int64) : (XT.cmpL x y).toInt = if y.toInt < x.toInt then 1 else if x.toInt = y.toInt then 0 else -1 := by
  unfold XT.cmpL
  simp only [Int64.lt_iff_toInt_lt, ← Int64.toInt_inj]
  split
  · rfl
  · split <;> rfl
theorem own_f_of {b : Bool} {p : Prop} (h : (b = true) ↔ p) (hp : ¬ p) : b = false := Bool.eq_false_iff.mpr fun q => hp (h.mp q)
theorem own_irem (x y : Int32) : (x - x / y * y).toInt = x.toInt.tmod y.toInt := by
  have a := (x % y).toInt_lt; have b := (x % y).le_toInt
  rw [Int32.toInt_mod] at a b
  rw [Int32.toInt_sub, Int32.toInt_mul, Int32.toInt_div, Int.bmod_mul_bmod, Int.sub_bmod_bmod, Int.mul_comm, ← Int.tmod_def]
  exact Jvm.Kit.bmod32 b a
theorem own_irem_nn {x y : Int32} (hx : 0 ≤ x.toInt) : (x - x / y * y).toInt = x.toInt % y.toInt := by rw [own_irem, Int.tmod_eq_emod_of_nonneg hx]
theorem own_ne0 {y : Int32} (h : y.toInt ≠ 0) : y ≠ 0 := fun q => h (by rw [q]; rfl)
theorem own_ne0L {y : Int64} (h : y.toInt ≠ 0) : y ≠ 0 := fun q => h (by rw [q]; rfl)
theorem own_mask31 (x : Int32) : 0 ≤ (x &&& 2147483647).toInt ∧ (x &&& 2147483647).toInt < 2147483648 := by
  rw [Jvm.Kit.i32_mask x 2147483647 (k := 31) (by decide) (by decide)]
  omega
abbrev own_BB : String := "com/example/riskloom/riskloom/gateway/http/BodyBuffer"
abbrev own_σ : Lambda.Shape := Lambda.Shape.mk "java/util/function/IntFunction" "apply" ⟨[.int], some (.object "java/lang/Object")⟩ [] 6 own_BB "lambda$new$0" ⟨[.int], some (.array .byte)⟩ false ⟨[.int], some (.array .byte)⟩
abbrev own_xi : MethodName := ⟨"java/util/function/IntFunction", "apply", "(I)Ljava/lang/Object;"⟩
abbrev own_yL : MethodName := ⟨own_BB, "lambda$new$0", "(I)[B"⟩
abbrev own_yI : MethodName := ⟨own_BB, "<init>", "(I)V"⟩
def own_fcode : ByteArray := ⟨#[0x1b, 0xb8, 0x00, 0x12, 0xb0]⟩
theorem own_fwd : Jvm.LamKit.fwdOK own_σ own_BB own_fcode 2 (some (.object "java/lang/Object")) 18 14 = true := by decide +kernel
theorem own_f0 : decode own_fcode 0 = .ok (.iload_n 1, 1) := by decide +kernel
theorem own_f1 : decode own_fcode 1 = .ok (.invokestatic 18, 3) := by decide +kernel
theorem own_f4 : decode own_fcode 4 = .ok (.areturn, 1) := by decide +kernel
theorem own_selPriv {args : Array Value} {s : State} {y z : MethodName} (hc : y.cls = z.cls) (wi : (Cond.instanceMethod y).before args s = true) (wp : s.PrivateAt y) (ws : (Cond.selects z.cls z z).before args s = true)
    (hy : y.cls ≠ "java/lang/invoke/MethodHandle" ∧ y.cls ≠ "java/lang/invoke/VarHandle") : (Cond.selects y.cls y y).before args s = true := by
  obtain ⟨c, r, m, e1, e2, e3, e4, mk, e5, e6⟩ := Cond.selects_spec ws
  obtain ⟨my, methY, hn, hm, hst, hab⟩ := Cond.instanceMethod_spec wi
  have f1 := findClass_of_methodNamed hn
  have f3 := findClass_of_methodNamed e3
  have hmc : m.cls = my.cls := by
    rw [hc] at f1
    exact Option.some.inj (f3.symm.trans f1)
  rw [hmc] at e5
  have hf := State.methodFound?_of_named hn hy
  have hs : selectMethod {} s.vm my.cls my = .method my := selectMethod_private hm (wp my methY hn hm)
  show (Cond.selects y.cls y y).holds _ _ _ _ _ = true
  simp only [Cond.holds, Cond.value, f1, hf, hn, hs, e5, e6]
  simp [e6]
/-- the lambda's one object, at the start -/
def own_Lam (Z : State) (a : Addr) (cK : ClassId) : Prop :=
  Jvm.LamKit.Made Z own_BB own_σ cK ∧ Jvm.LamKit.FnAt Z.heap a cK ∧ ∃ (mD : MethodId) (kD : Class) (i0 p0 : Nat), Z.methodNamed? own_yI = some mD ∧ Z.vm.classes[mD.cls]? = some kD ∧ (kD.callSites.find? fun y => y.1 == mD.idx && y.2.1 == 2) = some (i0, p0, .constant a)
theorem own_lam {Z : State} {a0 : Array Value} (w : (Cond.lambdaSite own_yI 2 1 own_σ).before a0 Z = true) : ∃ a cK, own_Lam Z a cK := by
  obtain ⟨cK, one, hat⟩ := Cond.lambdaSite_spec w
  obtain ⟨mD, kD, cfD, i0, p0, lk, hmD, hkD, -, -, -, hfind, hmade, hcan, hl⟩ := State.lambdaAt?_spec hat
  obtain ⟨kD', hkD', hnameD⟩ := className_of_methodNamed hmD
  cases hkD.symm.trans hkD'
  rcases hl with ⟨a, cell, rfl, -, -, hcell, hcls, hvm, -⟩ | ⟨-, -, hne⟩
  · exact ⟨a, cK, ⟨_, kD, hkD, hnameD, hmade, hcan⟩, ⟨cell, hcell, hcls, hvm⟩, mD, kD, i0, p0, hmD, hkD, hfind⟩
  · exact absurd rfl hne
section
variable {p : Program} {l : Launch} {e : Env} {R : Room} {s : State} {m : MethodId} {args : Array Value} {below : List Frame} {meth : Method} {c : Code} {T : State} {locs : List Loc} {cells slots : Nat}
theorem own_site (X : Stand p l e R s m args below meth c T locs cells slots) (hx : p.tables.exec = Jvm.exec) {Z : State} (hZ : Z.Warmed39 s.vm) {a : Addr} {cK : ClassId} (L : own_Lam Z a cK) (hn : s.methodNamed? own_yI = some m)
    {g : JFrame} (hg : g.method = m) (hpc : g.pc = 2) (hsize : g.locals.size = c.maxLocals) (hd : decode c.code g.pc = .ok (.invokedynamic 1, 5)) (hwords : 2 * g.monitorRoom + (g.stack.map fun v => v.category).sum + 3072 ≤ R.locals) :
    ∀ target, Steps p.tables e below (T.setTop { g with pc := g.pc + 5, stack := .ref a :: g.stack }) target → Steps p.tables e below (T.setTop g) target := by
  obtain ⟨-, -, mD, kD, i0, p0, h1, h2, h3⟩ := L
  have q : (Z.setVm s.vm).methodNamed? own_yI = some mD := by rw [State.methodNamed?_setVm hZ.alike]; exact h1
  have q2 : s.methodNamed? own_yI = some mD := q
  cases hn.symm.trans q2
  obtain ⟨k', hk', he⟩ := hZ.alike.2.2 _ _ h2
  have hf : (k'.callSites.find? fun y => y.1 == m.idx && y.2.1 == g.pc) = some (i0, p0, .constant a) := by rw [he, hpc]; exact h3
  have hw : e.platform.lambdaLinkWords = 3072 := by rw [X.admits.platform]
  intro target k
  exact X.lambdaConstant hx hg hsize hd hk' hf (by rw [hw]; exact hwords) k
end
theorem d1_0 : decode prog_17_method_1_code 0 = .ok (.aload_n 0, 1) := by decide +kernel
theorem d1_1 : decode prog_17_method_1_code 1 = .ok (.iload_n 1, 1) := by decide +kernel
theorem d1_2 : decode prog_17_method_1_code 2 = .ok (.invokedynamic 1, 5) := by decide +kernel
theorem d1_7 : decode prog_17_method_1_code 7 = .ok (.invokespecial 5, 3) := by decide +kernel
theorem d1_10 : decode prog_17_method_1_code 10 = .ok (.return_, 1) := by decide +kernel
theorem d2_0 : decode prog_17_method_2_code 0 = .ok (.aload_n 0, 1) := by decide +kernel
theorem d2_1 : decode prog_17_method_2_code 1 = .ok (.invokespecial 11, 3) := by decide +kernel
theorem d2_4 : decode prog_17_method_2_code 4 = .ok (.aload_n 0, 1) := by decide +kernel
theorem d2_5 : decode prog_17_method_2_code 5 = .ok (.new 16, 3) := by decide +kernel
theorem d2_8 : decode prog_17_method_2_code 8 = .ok (.dup, 1) := by decide +kernel
theorem d2_9 : decode prog_17_method_2_code 9 = .ok (.invokespecial 18, 3) := by decide +kernel
theorem d2_12 : decode prog_17_method_2_code 12 = .ok (.putfield 19, 3) := by decide +kernel
theorem d2_15 : decode prog_17_method_2_code 15 = .ok (.aload_n 0, 1) := by decide +kernel
theorem d2_16 : decode prog_17_method_2_code 16 = .ok (.getstatic 23, 3) := by decide +kernel
theorem d2_19 : decode prog_17_method_2_code 19 = .ok (.putfield 27, 3) := by decide +kernel
theorem d2_22 : decode prog_17_method_2_code 22 = .ok (.aload_n 0, 1) := by decide +kernel
theorem d2_23 : decode prog_17_method_2_code 23 = .ok (.iload_n 1, 1) := by decide +kernel
theorem d2_24 : decode prog_17_method_2_code 24 = .ok (.putfield 30, 3) := by decide +kernel
theorem d2_27 : decode prog_17_method_2_code 27 = .ok (.aload_n 0, 1) := by decide +kernel
theorem d2_28 : decode prog_17_method_2_code 28 = .ok (.aload_n 2, 1) := by decide +kernel
theorem d2_29 : decode prog_17_method_2_code 29 = .ok (.putfield 34, 3) := by decide +kernel
theorem d2_32 : decode prog_17_method_2_code 32 = .ok (.return_, 1) := by decide +kernel
theorem d4_0 : decode jdk_38_method_2_code 0 = .ok (.aload_n 0, 1) := by decide +kernel
theorem d4_1 : decode jdk_38_method_2_code 1 = .ok (.invokespecial 1, 3) := by decide +kernel
theorem d4_4 : decode jdk_38_method_2_code 4 = .ok (.aload_n 0, 1) := by decide +kernel
theorem d4_5 : decode jdk_38_method_2_code 5 = .ok (.getstatic 39, 3) := by decide +kernel
theorem d4_8 : decode jdk_38_method_2_code 8 = .ok (.putfield 9, 3) := by decide +kernel
theorem d4_11 : decode jdk_38_method_2_code 11 = .ok (.return_, 1) := by decide +kernel
theorem d5_0 : decode jdk_39_method_1_code 0 = .ok (.aload_n 0, 1) := by decide +kernel
theorem d5_1 : decode jdk_39_method_1_code 1 = .ok (.invokespecial 1, 3) := by decide +kernel
theorem d5_4 : decode jdk_39_method_1_code 4 = .ok (.aload_n 0, 1) := by decide +kernel
theorem d5_5 : decode jdk_39_method_1_code 5 = .ok (.iconst 0, 1) := by decide +kernel
theorem d5_6 : decode jdk_39_method_1_code 6 = .ok (.putfield 7, 3) := by decide +kernel
theorem d5_9 : decode jdk_39_method_1_code 9 = .ok (.return_, 1) := by decide +kernel
theorem d6_0 : decode jdk_22_method_1_code 0 = .ok (.aload_n 0, 1) := by decide +kernel
theorem d6_1 : decode jdk_22_method_1_code 1 = .ok (.invokespecial 1, 3) := by decide +kernel
theorem d6_4 : decode jdk_22_method_1_code 4 = .ok (.return_, 1) := by decide +kernel
theorem d7_0 : decode prog_17_method_4_code 0 = .ok (.aload_n 0, 1) := by decide +kernel
theorem d7_1 : decode prog_17_method_4_code 1 = .ok (.getfield 38, 3) := by decide +kernel
theorem d7_4 : decode prog_17_method_4_code 4 = .ok (.aload_n 0, 1) := by decide +kernel
theorem d7_5 : decode prog_17_method_4_code 5 = .ok (.getfield 27, 3) := by decide +kernel
theorem d7_8 : decode prog_17_method_4_code 8 = .ok (.arraylength, 1) := by decide +kernel
theorem d7_9 : decode prog_17_method_4_code 9 = .ok (.if_icmp .ne 21, 3) := by decide +kernel
theorem d7_12 : decode prog_17_method_4_code 12 = .ok (.aload_n 0, 1) := by decide +kernel
theorem d7_13 : decode prog_17_method_4_code 13 = .ok (.getfield 57, 3) := by decide +kernel
theorem d7_16 : decode prog_17_method_4_code 16 = .ok (.aload_n 0, 1) := by decide +kernel
theorem d7_17 : decode prog_17_method_4_code 17 = .ok (.getfield 30, 3) := by decide +kernel
theorem d7_20 : decode prog_17_method_4_code 20 = .ok (.if_icmp .ge 10, 3) := by decide +kernel
theorem d7_23 : decode prog_17_method_4_code 23 = .ok (.aload_n 0, 1) := by decide +kernel
theorem d7_24 : decode prog_17_method_4_code 24 = .ok (.sipush 8192, 3) := by decide +kernel
theorem d7_27 : decode prog_17_method_4_code 27 = .ok (.invokevirtual 41, 3) := by decide +kernel
theorem d7_30 : decode prog_17_method_4_code 30 = .ok (.aload_n 0, 1) := by decide +kernel
theorem d7_31 : decode prog_17_method_4_code 31 = .ok (.getfield 27, 3) := by decide +kernel
theorem d7_34 : decode prog_17_method_4_code 34 = .ok (.arraylength, 1) := by decide +kernel
theorem d7_35 : decode prog_17_method_4_code 35 = .ok (.aload_n 0, 1) := by decide +kernel
theorem d7_36 : decode prog_17_method_4_code 36 = .ok (.getfield 38, 3) := by decide +kernel
theorem d7_39 : decode prog_17_method_4_code 39 = .ok (.isub, 1) := by decide +kernel
theorem d7_40 : decode prog_17_method_4_code 40 = .ok (.ireturn, 1) := by decide +kernel
theorem d8_0 : decode prog_17_method_6_code 0 = .ok (.aload_n 0, 1) := by decide +kernel
theorem d8_1 : decode prog_17_method_6_code 1 = .ok (.getfield 27, 3) := by decide +kernel
theorem d8_4 : decode prog_17_method_6_code 4 = .ok (.areturn, 1) := by decide +kernel
theorem d9_0 : decode prog_17_method_9_code 0 = .ok (.aload_n 0, 1) := by decide +kernel
theorem d9_1 : decode prog_17_method_9_code 1 = .ok (.getfield 60, 3) := by decide +kernel
theorem d9_4 : decode prog_17_method_9_code 4 = .ok (.lreturn, 1) := by decide +kernel
theorem d10_0 : decode prog_17_method_5_code 0 = .ok (.aload_n 0, 1) := by decide +kernel
theorem d10_1 : decode prog_17_method_5_code 1 = .ok (.dup, 1) := by decide +kernel
theorem d10_2 : decode prog_17_method_5_code 2 = .ok (.getfield 38, 3) := by decide +kernel
theorem d10_5 : decode prog_17_method_5_code 5 = .ok (.iload_n 1, 1) := by decide +kernel
theorem d10_6 : decode prog_17_method_5_code 6 = .ok (.iadd, 1) := by decide +kernel
theorem d10_7 : decode prog_17_method_5_code 7 = .ok (.putfield 38, 3) := by decide +kernel
theorem d10_10 : decode prog_17_method_5_code 10 = .ok (.aload_n 0, 1) := by decide +kernel
theorem d10_11 : decode prog_17_method_5_code 11 = .ok (.dup, 1) := by decide +kernel
theorem d10_12 : decode prog_17_method_5_code 12 = .ok (.getfield 57, 3) := by decide +kernel
theorem d10_15 : decode prog_17_method_5_code 15 = .ok (.iload_n 1, 1) := by decide +kernel
theorem d10_16 : decode prog_17_method_5_code 16 = .ok (.iadd, 1) := by decide +kernel
theorem d10_17 : decode prog_17_method_5_code 17 = .ok (.putfield 57, 3) := by decide +kernel
theorem d10_20 : decode prog_17_method_5_code 20 = .ok (.return_, 1) := by decide +kernel
theorem d11_0 : decode prog_17_method_7_code 0 = .ok (.aload_n 0, 1) := by decide +kernel
theorem d11_1 : decode prog_17_method_7_code 1 = .ok (.getfield 38, 3) := by decide +kernel
theorem d11_4 : decode prog_17_method_7_code 4 = .ok (.ireturn, 1) := by decide +kernel
theorem d12_0 : decode prog_17_method_8_code 0 = .ok (.aload_n 0, 1) := by decide +kernel
theorem d12_1 : decode prog_17_method_8_code 1 = .ok (.getfield 57, 3) := by decide +kernel
theorem d12_4 : decode prog_17_method_8_code 4 = .ok (.ireturn, 1) := by decide +kernel
theorem d13_0 : decode prog_17_method_11_code 0 = .ok (.aload_n 0, 1) := by decide +kernel
theorem d13_1 : decode prog_17_method_11_code 1 = .ok (.getfield 30, 3) := by decide +kernel
theorem d13_4 : decode prog_17_method_11_code 4 = .ok (.aload_n 0, 1) := by decide +kernel
theorem d13_5 : decode prog_17_method_11_code 5 = .ok (.getfield 57, 3) := by decide +kernel
theorem d13_8 : decode prog_17_method_11_code 8 = .ok (.isub, 1) := by decide +kernel
theorem d13_9 : decode prog_17_method_11_code 9 = .ok (.istore_n 2, 1) := by decide +kernel
theorem d13_10 : decode prog_17_method_11_code 10 = .ok (.aload_n 0, 1) := by decide +kernel
theorem d13_11 : decode prog_17_method_11_code 11 = .ok (.getfield 19, 3) := by decide +kernel
theorem d13_14 : decode prog_17_method_11_code 14 = .ok (.invokeinterface 97 1, 5) := by decide +kernel
theorem d13_19 : decode prog_17_method_11_code 19 = .ok (.ifCond .eq 107, 3) := by decide +kernel
theorem d13_22 : decode prog_17_method_11_code 22 = .ok (.aload_n 0, 1) := by decide +kernel
theorem d13_23 : decode prog_17_method_11_code 23 = .ok (.getfield 27, 3) := by decide +kernel
theorem d13_26 : decode prog_17_method_11_code 26 = .ok (.arraylength, 1) := by decide +kernel
theorem d13_27 : decode prog_17_method_11_code 27 = .ok (.ldc 100, 2) := by decide +kernel
theorem d13_29 : decode prog_17_method_11_code 29 = .ok (.if_icmp .ge 97, 3) := by decide +kernel
theorem d13_32 : decode prog_17_method_11_code 32 = .ok (.iload_n 1, 1) := by decide +kernel
theorem d13_33 : decode prog_17_method_11_code 33 = .ok (.i2l, 1) := by decide +kernel
theorem d13_34 : decode prog_17_method_11_code 34 = .ok (.ldc2_w 101, 3) := by decide +kernel
theorem d13_37 : decode prog_17_method_11_code 37 = .ok (.aload_n 0, 1) := by decide +kernel
theorem d13_38 : decode prog_17_method_11_code 38 = .ok (.getfield 27, 3) := by decide +kernel
theorem d13_41 : decode prog_17_method_11_code 41 = .ok (.arraylength, 1) := by decide +kernel
theorem d13_42 : decode prog_17_method_11_code 42 = .ok (.i2l, 1) := by decide +kernel
theorem d13_43 : decode prog_17_method_11_code 43 = .ok (.lmul, 1) := by decide +kernel
theorem d13_44 : decode prog_17_method_11_code 44 = .ok (.invokestatic 103, 3) := by decide +kernel
theorem d13_47 : decode prog_17_method_11_code 47 = .ok (.lstore_n 3, 1) := by decide +kernel
theorem d13_48 : decode prog_17_method_11_code 48 = .ok (.lload_n 3, 1) := by decide +kernel
theorem d13_49 : decode prog_17_method_11_code 49 = .ok (.ldc2_w 107, 3) := by decide +kernel
theorem d13_52 : decode prog_17_method_11_code 52 = .ok (.invokestatic 109, 3) := by decide +kernel
theorem d13_55 : decode prog_17_method_11_code 55 = .ok (.aload_n 0, 1) := by decide +kernel
theorem d13_56 : decode prog_17_method_11_code 56 = .ok (.getfield 27, 3) := by decide +kernel
theorem d13_59 : decode prog_17_method_11_code 59 = .ok (.arraylength, 1) := by decide +kernel
theorem d13_60 : decode prog_17_method_11_code 60 = .ok (.i2l, 1) := by decide +kernel
theorem d13_61 : decode prog_17_method_11_code 61 = .ok (.iload_n 2, 1) := by decide +kernel
theorem d13_62 : decode prog_17_method_11_code 62 = .ok (.i2l, 1) := by decide +kernel
theorem d13_63 : decode prog_17_method_11_code 63 = .ok (.ladd, 1) := by decide +kernel
theorem d13_64 : decode prog_17_method_11_code 64 = .ok (.invokestatic 109, 3) := by decide +kernel
theorem d13_67 : decode prog_17_method_11_code 67 = .ok (.l2i, 1) := by decide +kernel
theorem d13_68 : decode prog_17_method_11_code 68 = .ok (.istore 5, 2) := by decide +kernel
theorem d13_70 : decode prog_17_method_11_code 70 = .ok (.aload_n 0, 1) := by decide +kernel
theorem d13_71 : decode prog_17_method_11_code 71 = .ok (.getfield 34, 3) := by decide +kernel
theorem d13_74 : decode prog_17_method_11_code 74 = .ok (.iload 5, 2) := by decide +kernel
theorem d13_76 : decode prog_17_method_11_code 76 = .ok (.invokeinterface 111 2, 5) := by decide +kernel
theorem d13_81 : decode prog_17_method_11_code 81 = .ok (.checkcast 86, 3) := by decide +kernel
theorem d13_84 : decode prog_17_method_11_code 84 = .ok (.astore 6, 2) := by decide +kernel
theorem d13_86 : decode prog_17_method_11_code 86 = .ok (.aload_n 0, 1) := by decide +kernel
theorem d13_87 : decode prog_17_method_11_code 87 = .ok (.getfield 27, 3) := by decide +kernel
theorem d13_90 : decode prog_17_method_11_code 90 = .ok (.iconst 0, 1) := by decide +kernel
theorem d13_91 : decode prog_17_method_11_code 91 = .ok (.aload 6, 2) := by decide +kernel
theorem d13_93 : decode prog_17_method_11_code 93 = .ok (.iconst 0, 1) := by decide +kernel
theorem d13_94 : decode prog_17_method_11_code 94 = .ok (.aload_n 0, 1) := by decide +kernel
theorem d13_95 : decode prog_17_method_11_code 95 = .ok (.getfield 38, 3) := by decide +kernel
theorem d13_98 : decode prog_17_method_11_code 98 = .ok (.invokestatic 116, 3) := by decide +kernel
theorem d13_101 : decode prog_17_method_11_code 101 = .ok (.aload_n 0, 1) := by decide +kernel
theorem d13_102 : decode prog_17_method_11_code 102 = .ok (.dup, 1) := by decide +kernel
theorem d13_103 : decode prog_17_method_11_code 103 = .ok (.getfield 60, 3) := by decide +kernel
theorem d13_106 : decode prog_17_method_11_code 106 = .ok (.iload 5, 2) := by decide +kernel
theorem d13_108 : decode prog_17_method_11_code 108 = .ok (.aload_n 0, 1) := by decide +kernel
theorem d13_109 : decode prog_17_method_11_code 109 = .ok (.getfield 27, 3) := by decide +kernel
theorem d13_112 : decode prog_17_method_11_code 112 = .ok (.arraylength, 1) := by decide +kernel
theorem d13_113 : decode prog_17_method_11_code 113 = .ok (.isub, 1) := by decide +kernel
theorem d13_114 : decode prog_17_method_11_code 114 = .ok (.i2l, 1) := by decide +kernel
theorem d13_115 : decode prog_17_method_11_code 115 = .ok (.ladd, 1) := by decide +kernel
theorem d13_116 : decode prog_17_method_11_code 116 = .ok (.putfield 60, 3) := by decide +kernel
theorem d13_119 : decode prog_17_method_11_code 119 = .ok (.aload_n 0, 1) := by decide +kernel
theorem d13_120 : decode prog_17_method_11_code 120 = .ok (.aload 6, 2) := by decide +kernel
theorem d13_122 : decode prog_17_method_11_code 122 = .ok (.putfield 27, 3) := by decide +kernel
theorem d13_125 : decode prog_17_method_11_code 125 = .ok (.return_, 1) := by decide +kernel
theorem d13_126 : decode prog_17_method_11_code 126 = .ok (.aload_n 0, 1) := by decide +kernel
theorem d13_127 : decode prog_17_method_11_code 127 = .ok (.getfield 34, 3) := by decide +kernel
theorem d13_130 : decode prog_17_method_11_code 130 = .ok (.ldc 100, 2) := by decide +kernel
theorem d13_132 : decode prog_17_method_11_code 132 = .ok (.iload_n 2, 1) := by decide +kernel
theorem d13_133 : decode prog_17_method_11_code 133 = .ok (.invokestatic 45, 3) := by decide +kernel
theorem d13_136 : decode prog_17_method_11_code 136 = .ok (.invokeinterface 111 2, 5) := by decide +kernel
theorem d13_141 : decode prog_17_method_11_code 141 = .ok (.checkcast 86, 3) := by decide +kernel
theorem d13_144 : decode prog_17_method_11_code 144 = .ok (.astore_n 3, 1) := by decide +kernel
theorem d13_145 : decode prog_17_method_11_code 145 = .ok (.aload_n 0, 1) := by decide +kernel
theorem d13_146 : decode prog_17_method_11_code 146 = .ok (.getfield 19, 3) := by decide +kernel
theorem d13_149 : decode prog_17_method_11_code 149 = .ok (.aload_n 0, 1) := by decide +kernel
theorem d13_150 : decode prog_17_method_11_code 150 = .ok (.getfield 27, 3) := by decide +kernel
theorem d13_153 : decode prog_17_method_11_code 153 = .ok (.invokeinterface 91 2, 5) := by decide +kernel
theorem d13_158 : decode prog_17_method_11_code 158 = .ok (.pop, 1) := by decide +kernel
theorem d13_159 : decode prog_17_method_11_code 159 = .ok (.aload_n 0, 1) := by decide +kernel
theorem d13_160 : decode prog_17_method_11_code 160 = .ok (.aload_n 3, 1) := by decide +kernel
theorem d13_161 : decode prog_17_method_11_code 161 = .ok (.putfield 27, 3) := by decide +kernel
theorem d13_164 : decode prog_17_method_11_code 164 = .ok (.aload_n 0, 1) := by decide +kernel
theorem d13_165 : decode prog_17_method_11_code 165 = .ok (.iconst 0, 1) := by decide +kernel
theorem d13_166 : decode prog_17_method_11_code 166 = .ok (.putfield 38, 3) := by decide +kernel
theorem d13_169 : decode prog_17_method_11_code 169 = .ok (.aload_n 0, 1) := by decide +kernel
theorem d13_170 : decode prog_17_method_11_code 170 = .ok (.dup, 1) := by decide +kernel
theorem d13_171 : decode prog_17_method_11_code 171 = .ok (.getfield 60, 3) := by decide +kernel
theorem d13_174 : decode prog_17_method_11_code 174 = .ok (.aload_n 0, 1) := by decide +kernel
theorem d13_175 : decode prog_17_method_11_code 175 = .ok (.getfield 27, 3) := by decide +kernel
theorem d13_178 : decode prog_17_method_11_code 178 = .ok (.arraylength, 1) := by decide +kernel
theorem d13_179 : decode prog_17_method_11_code 179 = .ok (.i2l, 1) := by decide +kernel
theorem d13_180 : decode prog_17_method_11_code 180 = .ok (.ladd, 1) := by decide +kernel
theorem d13_181 : decode prog_17_method_11_code 181 = .ok (.putfield 60, 3) := by decide +kernel
theorem d13_184 : decode prog_17_method_11_code 184 = .ok (.return_, 1) := by decide +kernel
theorem d14_0 : decode jdk_38_method_9_code 0 = .ok (.aload_n 0, 1) := by decide +kernel
theorem d14_1 : decode jdk_38_method_9_code 1 = .ok (.getfield 48, 3) := by decide +kernel
theorem d14_4 : decode jdk_38_method_9_code 4 = .ok (.ifCond .ne 7, 3) := by decide +kernel
theorem d14_7 : decode jdk_38_method_9_code 7 = .ok (.iconst 1, 1) := by decide +kernel
theorem d14_8 : decode jdk_38_method_9_code 8 = .ok (.goto 4, 3) := by decide +kernel
theorem d14_11 : decode jdk_38_method_9_code 11 = .ok (.iconst 0, 1) := by decide +kernel
theorem d14_12 : decode jdk_38_method_9_code 12 = .ok (.ireturn, 1) := by decide +kernel
theorem d15_0 : decode jdk_29_method_66_code 0 = .ok (.lload_n 0, 1) := by decide +kernel
theorem d15_1 : decode jdk_29_method_66_code 1 = .ok (.lload_n 2, 1) := by decide +kernel
theorem d15_2 : decode jdk_29_method_66_code 2 = .ok (.lcmp, 1) := by decide +kernel
theorem d15_3 : decode jdk_29_method_66_code 3 = .ok (.ifCond .lt 7, 3) := by decide +kernel
theorem d15_6 : decode jdk_29_method_66_code 6 = .ok (.lload_n 0, 1) := by decide +kernel
theorem d15_7 : decode jdk_29_method_66_code 7 = .ok (.goto 4, 3) := by decide +kernel
theorem d15_10 : decode jdk_29_method_66_code 10 = .ok (.lload_n 2, 1) := by decide +kernel
theorem d15_11 : decode jdk_29_method_66_code 11 = .ok (.lreturn, 1) := by decide +kernel
theorem d16_0 : decode jdk_29_method_70_code 0 = .ok (.lload_n 0, 1) := by decide +kernel
theorem d16_1 : decode jdk_29_method_70_code 1 = .ok (.lload_n 2, 1) := by decide +kernel
theorem d16_2 : decode jdk_29_method_70_code 2 = .ok (.lcmp, 1) := by decide +kernel
theorem d16_3 : decode jdk_29_method_70_code 3 = .ok (.ifCond .gt 7, 3) := by decide +kernel
theorem d16_6 : decode jdk_29_method_70_code 6 = .ok (.lload_n 0, 1) := by decide +kernel
theorem d16_7 : decode jdk_29_method_70_code 7 = .ok (.goto 4, 3) := by decide +kernel
theorem d16_10 : decode jdk_29_method_70_code 10 = .ok (.lload_n 2, 1) := by decide +kernel
theorem d16_11 : decode jdk_29_method_70_code 11 = .ok (.lreturn, 1) := by decide +kernel
theorem d17_0 : decode prog_17_method_12_code 0 = .ok (.iload_n 0, 1) := by decide +kernel
theorem d17_1 : decode prog_17_method_12_code 1 = .ok (.newarray .byte, 2) := by decide +kernel
theorem d17_3 : decode prog_17_method_12_code 3 = .ok (.areturn, 1) := by decide +kernel
theorem pn_0 : plainName "java/util/AbstractCollection" = true := by first | (simp [plainName, overriddenIn]; done) | decide +kernel
theorem pn_1 : plainName "java/util/AbstractList" = true := by first | (simp [plainName, overriddenIn]; done) | decide +kernel
theorem pn_2 : plainName "java/util/ArrayList" = true := by first | (simp [plainName, overriddenIn]; done) | decide +kernel
theorem pn_3 : plainName "com/example/riskloom/riskloom/gateway/http/BodyBuffer" = true := by first | (simp [plainName, overriddenIn]; done) | decide +kernel
theorem pn_4 : plainName "com/example/riskloom/riskloom/gateway/http/BodyBufferAdvancePinLaw" = true := by first | (simp [plainName, overriddenIn]; done) | decide +kernel
theorem pd_0 : parseMethodDescriptor "()V" = some ⟨[], none⟩ := by decide +kernel
theorem pd_1 : parseMethodDescriptor "(ILjava/util/function/IntFunction;)V" = some ⟨[.int, (.object "java/util/function/IntFunction")], none⟩ := by decide +kernel
theorem pd_2 : parseMethodDescriptor "()Z" = some ⟨[], some .boolean⟩ := by decide +kernel
theorem pd_3 : parseMethodDescriptor "(JJ)J" = some ⟨[.long, .long], some .long⟩ := by decide +kernel
theorem pd_4 : parseMethodDescriptor "(I)Ljava/lang/Object;" = some ⟨[.int], some (.object "java/lang/Object")⟩ := by decide +kernel
theorem pd_5 : parseMethodDescriptor "(I)[B" = some ⟨[.int], some (.array .byte)⟩ := by decide +kernel
theorem pd_6 : parseMethodDescriptor "(I)V" = some ⟨[.int], none⟩ := by decide +kernel
theorem pd_7 : parseMethodDescriptor "()I" = some ⟨[], some .int⟩ := by decide +kernel
theorem pd_8 : parseMethodDescriptor "()[B" = some ⟨[], some (.array .byte)⟩ := by decide +kernel
theorem pd_9 : parseMethodDescriptor "()J" = some ⟨[], some .long⟩ := by decide +kernel

theorem ef_ac (m : MethodId) (x : Addr) : entryFrame m #[(.ref x)] 1 = (mkF m 0 #[.val (.ref x)] []) := by first | (simp [entryFrame, mkF, argsToLocals, Value.category]; done) | rfl
def Q_ac (Z : State) (x : Addr)  (h0 : Heap) (n0 : Nat) (v : Option Value) (h : Heap) (L : List Loc) : Prop := v = none ∧ Fr n0 L ∧ h = h0
set_option maxRecDepth 65536 in
set_option maxHeartbeats 40000000 in
theorem rm_ac (l : Launch) (Z : State) (a0 : Array Value) (hw : ∀ d ∈ tables_1, d.before a0 Z = true) (ws : List Jvm.Cond) (x : Addr)  (h0 : Heap) (n0 : Nat) (Z0 : n0 ≤ h0.size)    :
    MetFree l (⟨"java/util/AbstractCollection", "<init>", "()V"⟩ : MethodName) (head1 (Jvm.Cond.code (⟨"java/util/AbstractCollection", "<init>", "()V"⟩ : MethodName) jdk_22_method_1_code 1 none :: ws) ({ frames := 1, cells := 0, slots := 0, locals := 12 } : Room)) (fun a U => a = #[(.ref x)] ∧ Z.Warmed39 U.vm ∧ U.heap = h0) (fun _ _ _ _ _ => True) (fun _ U o U' => ∃ v L, o = .returned v ∧ Q_ac Z x  h0 n0 v U'.heap L ∧ FrameEnd U o U' L ({ frames := 1, cells := 0, slots := 0, locals := 12 } : Room).cells ({ frames := 1, cells := 0, slots := 0, locals := 12 } : Room).slots) := by
  refine MetFree.of_bodySF (plainFor_of_name pn_0) hisR ?_
  intro p e s m args below meth c s₁ Bd hml0 hP hK
  obtain ⟨rfl, hZ, hh⟩ := hP
  have hx := Bd.exec
  have hby := Bd.bytes
  have hml : c.maxLocals = 1 := hml0
  have hown : s.vm.findClass "java/util/AbstractCollection" = some m.cls := findClass_of_methodNamed Bd.named
  have hnm := (name_of_methodNamed Bd.named Bd.method).1
  have X0 : Stand p l e ({ frames := 1, cells := 0, slots := 0, locals := 12 } : Room) s m #[(.ref x)] below meth c s₁ [] 0 0 := Stand.of_body Bd
  have e0 : s₁.heap = h0 := by rw [← hh, Bd.state]; rfl
  have N0 := Fr.nil n0
  have pre0 : ∀ t, Steps p.tables e below (s₁.setTop (mkF m 0 #[.val (.ref x)] [])) t → Steps p.tables e below (s₁.setTop (entryFrame m #[(.ref x)] 1)) t := fun t k => castTop (ef_ac m x) k
  obtain ⟨T1, X1, e1, st1⟩ := initO X0 hx hZ hown (hw _ (List.mem_of_getElem? (i := 33) rfl)) (hw _ (List.mem_of_getElem? (i := 13) rfl)) (hw _ (List.mem_of_getElem? (i := 14) rfl)) e0 (g := (mkF m 1 #[.val (.ref x)] [(.ref x)])) rfl (by rw [hml]; rfl) rfl (hb hby d6_1) (by decide) (W := 0) (by show 2 * 0 + _ ≤ _; exact Nat.le_of_eq rfl) (by decide)
  obtain ⟨fs, hr, hrun, hended, hW, hsame⟩ := X1.leave (v := none) (fun _ => rfl)
  refine ⟨_, _, pre0 _ ?_, hrun, hended, _, _, rfl, ?_, ⟨_, rfl⟩, hW, hsame.mono (Nat.le_of_ble_eq_true rfl) (Nat.le_of_ble_eq_true rfl)⟩
  · show Steps p.tables e below (s₁.setTop (mkF m 0 #[.val (.ref x)] [])) _
    refine XS.aloadN X0.here hx rfl (hb hby d6_0) rfl rfl ?_
    show Steps p.tables e below (s₁.setTop (mkF m 1 #[.val (.ref x)] [(.ref x)])) _
    refine st1 _ ?_
    show Steps p.tables e below (T1.setTop (mkF m 4 #[.val (.ref x)] [])) _
    exact X1.returnOut hx Bd.returns (hb hby d6_4) hr
  · show Q_ac Z x  h0 n0 _ T1.heap _
    exact ⟨rfl, N0, e1⟩
theorem ef_ab (m : MethodId) (x : Addr) : entryFrame m #[(.ref x)] 1 = (mkF m 0 #[.val (.ref x)] []) := by first | (simp [entryFrame, mkF, argsToLocals, Value.category]; done) | rfl
def Q_ab (Z : State) (x : Addr)  (h0 : Heap) (n0 : Nat) (v : Option Value) (h : Heap) (L : List Loc) : Prop := v = none ∧ Fr n0 L ∧ Keep h0 h [x] ∧ (Exa Z h x "java/util/ArrayList") ∧ (Fld Z h x "java/util/AbstractList" "modCount" "I" (.int (0 : Int32))) ∧ (Fld Z h x "java/util/ArrayList" "elementData" "[Ljava/lang/Object;" .null) ∧ (Fld Z h x "java/util/ArrayList" "size" "I" (.int (0 : Int32)))
set_option maxRecDepth 65536 in
set_option maxHeartbeats 40000000 in
theorem rm_ab (l : Launch) (Z : State) (a0 : Array Value) (hw : ∀ d ∈ tables_1, d.before a0 Z = true) (ws : List Jvm.Cond) (x : Addr)  (h0 : Heap) (n0 : Nat) (Z0 : n0 ≤ h0.size) (k0_ : Exa Z h0 x "java/util/ArrayList") (k1_ : Fld Z h0 x "java/util/AbstractList" "modCount" "I" (.int (0 : Int32))) (k2_ : Fld Z h0 x "java/util/ArrayList" "elementData" "[Ljava/lang/Object;" .null) (k3_ : Fld Z h0 x "java/util/ArrayList" "size" "I" (.int (0 : Int32))) (k4_ : n0 ≤ x)   :
    MetFree l (⟨"java/util/AbstractList", "<init>", "()V"⟩ : MethodName) (head1 (Jvm.Cond.code (⟨"java/util/AbstractList", "<init>", "()V"⟩ : MethodName) jdk_39_method_1_code 1 none :: ws) ({ frames := 2, cells := 0, slots := 0, locals := 24 } : Room)) (fun a U => a = #[(.ref x)] ∧ Z.Warmed39 U.vm ∧ U.heap = h0) (fun _ _ _ _ _ => True) (fun _ U o U' => ∃ v L, o = .returned v ∧ Q_ab Z x  h0 n0 v U'.heap L ∧ FrameEnd U o U' L ({ frames := 2, cells := 0, slots := 0, locals := 24 } : Room).cells ({ frames := 2, cells := 0, slots := 0, locals := 24 } : Room).slots) := by
  refine MetFree.of_bodySF (plainFor_of_name pn_1) hisR ?_
  intro p e s m args below meth c s₁ Bd hml0 hP hK
  obtain ⟨rfl, hZ, hh⟩ := hP
  have hx := Bd.exec
  have hby := Bd.bytes
  have hml : c.maxLocals = 1 := hml0
  have hown : s.vm.findClass "java/util/AbstractList" = some m.cls := findClass_of_methodNamed Bd.named
  have hnm := (name_of_methodNamed Bd.named Bd.method).1
  have X0 : Stand p l e ({ frames := 2, cells := 0, slots := 0, locals := 24 } : Room) s m #[(.ref x)] below meth c s₁ [] 0 0 := Stand.of_body Bd
  have e0 : s₁.heap = h0 := by rw [← hh, Bd.state]; rfl
  have N0 := Fr.nil n0
  have pre0 : ∀ t, Steps p.tables e below (s₁.setTop (mkF m 0 #[.val (.ref x)] [])) t → Steps p.tables e below (s₁.setTop (entryFrame m #[(.ref x)] 1)) t := fun t k => castTop (ef_ab m x) k
  have K0 := Keep.refl h0 [x]
  obtain ⟨_, _, ⟨T1, L1, k1, n1⟩, -, X1, ⟨Lc1, hQ1, l1, y1, z1⟩, st1⟩ := X0.specialBack hx (y := (⟨"java/util/AbstractCollection", "<init>", "()V"⟩ : MethodName)) rfl hown (mvT hZ (hw _ (List.mem_of_getElem? (i := 27) rfl))) (mvT hZ (hw _ (List.mem_of_getElem? (i := 28) rfl))) (mvT hZ (hw _ (List.mem_of_getElem? (i := 32) rfl))) (by decide) (backOf (W := 0) (rm_ac l Z a0 hw [] x  (h0) n0 Z0  ) hZ (hw _ (List.mem_of_getElem? (i := 32) rfl)) (hw _ (List.mem_of_getElem? (i := 31) rfl)) (by decide) (by decide)) (g := (mkF m 1 #[.val (.ref x)] [(.ref x)])) rfl (by rw [hml]; rfl) (Steps.refl _) (a := x) (argsL := []) (rest := []) (lenOf pd_0 rfl) rfl (by show 2 * 0 + _ ≤ _; exact Nat.le_of_eq rfl) (hb hby d5_1) (fun _ _ => ⟨rfl, e0, (by decide : 0 + 0 ≤ _), (by decide : 0 + 0 ≤ _)⟩)
  dsimp only [Pt.U, Pt.locs, Pt.cells, Pt.slots] at X1 l1 y1 z1 st1 hQ1
  rw [l1, y1, z1] at X1
  replace X1 : Stand _ _ _ _ _ _ _ _ _ _ _ _ 0 0 := X1
  obtain ⟨vq1, N1, e1⟩ := hQ1
  rw [vq1] at st1
  have Nn1 := Fr.app N0 N1
  obtain ⟨T2, h2, X2, e2, W2, st2⟩ := putF X1 hx hZ hown (host := "") (Or.inl (hw _ (List.mem_of_getElem? (i := 34) rfl))) Via.refl e1 k1_ k0_ (Or.inl (hw _ (List.mem_of_getElem? (i := 35) rfl))) (hw _ (List.mem_of_getElem? (i := 16) rfl)) (ty := .int) (by decide) rfl rfl (g := (mkF m 6 #[.val (.ref x)] [(.int (0 : Int32)), (.ref x)])) rfl rfl (hb hby d5_6)
  have Nn2 := Fr.snoc X2 Nn1 k4_
  have q3 : Exa Z h2 x "java/util/ArrayList" := (k0_.wr W2)
  have q4 : Fld Z h2 x "java/util/ArrayList" "elementData" "[Ljava/lang/Object;" .null := (k2_.other W2 (Or.inr (slot_ne (a0 := a0) (C := "java/util/ArrayList") (Or.inl (hw _ (List.mem_of_getElem? (i := 38) rfl))) (Or.inl (hw _ (List.mem_of_getElem? (i := 35) rfl))) (by decide) (t := (.array (.object "java/lang/Object"))) (t' := .int) (by decide) (by decide))))
  have q5 : Fld Z h2 x "java/util/ArrayList" "size" "I" (.int (0 : Int32)) := (k3_.other W2 (Or.inr (slot_ne (a0 := a0) (C := "java/util/ArrayList") (Or.inl (hw _ (List.mem_of_getElem? (i := 100) rfl))) (Or.inl (hw _ (List.mem_of_getElem? (i := 35) rfl))) (by decide) (t := .int) (t' := .int) (by decide) (by decide))))
  have q2n : Fld Z h2 x "java/util/AbstractList" "modCount" "I" (.int (0 : Int32)) := (k1_.same W2)
  have K2 := K0.wr W2 (Or.inl (List.mem_of_getElem? (i := 0) rfl))
  have Z2 : n0 ≤ h2.size := Nat.le_trans Z0 (Keep.of_wr W2).1
  obtain ⟨fs, hr, hrun, hended, hW, hsame⟩ := X2.leave (v := none) (fun _ => rfl)
  refine ⟨_, _, pre0 _ ?_, hrun, hended, _, _, rfl, ?_, ⟨_, rfl⟩, hW, hsame.mono (Nat.le_of_ble_eq_true rfl) (Nat.le_of_ble_eq_true rfl)⟩
  · show Steps p.tables e below (s₁.setTop (mkF m 0 #[.val (.ref x)] [])) _
    refine XS.aloadN X0.here hx rfl (hb hby d5_0) rfl rfl ?_
    show Steps p.tables e below (s₁.setTop (mkF m 1 #[.val (.ref x)] [(.ref x)])) _
    refine st1.trans ?_
    show Steps p.tables e below (T1.setTop (mkF m 4 #[.val (.ref x)] [])) _
    refine XS.aloadN X1.here hx rfl (hb hby d5_4) rfl rfl ?_
    show Steps p.tables e below (T1.setTop (mkF m 5 #[.val (.ref x)] [(.ref x)])) _
    refine XS.iconst X1.here hx rfl (hb hby d5_5) ?_
    show Steps p.tables e below (T1.setTop (mkF m 6 #[.val (.ref x)] [(.int (0 : Int32)), (.ref x)])) _
    refine st2 _ ?_
    show Steps p.tables e below (T2.setTop (mkF m 9 #[.val (.ref x)] [])) _
    exact X2.returnOut hx Bd.returns (hb hby d5_9) hr
  · show Q_ab Z x  h0 n0 _ T2.heap _
    rw [e2]
    exact ⟨rfl, Nn2, K2, q3, q2n, q4, q5⟩
theorem ef_al (m : MethodId) (x : Addr) : entryFrame m #[(.ref x)] 1 = (mkF m 0 #[.val (.ref x)] []) := by first | (simp [entryFrame, mkF, argsToLocals, Value.category]; done) | rfl
def Q_al (Z : State) (x : Addr) (dv : Addr) (h0 : Heap) (n0 : Nat) (v : Option Value) (h : Heap) (L : List Loc) : Prop := v = none ∧ Fr n0 L ∧ Keep h0 h [x] ∧ (Exa Z h x "java/util/ArrayList") ∧ (Fld Z h x "java/util/AbstractList" "modCount" "I" (.int (0 : Int32))) ∧ (Fld Z h x "java/util/ArrayList" "elementData" "[Ljava/lang/Object;" (.ref dv)) ∧ (Fld Z h x "java/util/ArrayList" "size" "I" (.int (0 : Int32)))
set_option maxRecDepth 65536 in
set_option maxHeartbeats 40000000 in
theorem rm_al (l : Launch) (Z : State) (a0 : Array Value) (hw : ∀ d ∈ tables_1, d.before a0 Z = true) (ws : List Jvm.Cond) (x : Addr) (dv : Addr) (h0 : Heap) (n0 : Nat) (Z0 : n0 ≤ h0.size) (k0_ : Exa Z h0 x "java/util/ArrayList") (k1_ : Fld Z h0 x "java/util/AbstractList" "modCount" "I" (.int (0 : Int32))) (k2_ : Fld Z h0 x "java/util/ArrayList" "elementData" "[Ljava/lang/Object;" .null) (k3_ : Fld Z h0 x "java/util/ArrayList" "size" "I" (.int (0 : Int32))) (k4_ : n0 ≤ x) (k5_ : Old Z n0 h0) (SD : Sta Z Z.heap "java/util/ArrayList" "DEFAULTCAPACITY_EMPTY_ELEMENTDATA" "[Ljava/lang/Object;" (.ref dv))  :
    MetFree l (⟨"java/util/ArrayList", "<init>", "()V"⟩ : MethodName) (head1 (Jvm.Cond.code (⟨"java/util/ArrayList", "<init>", "()V"⟩ : MethodName) jdk_38_method_2_code 1 none :: ws) ({ frames := 3, cells := 0, slots := 0, locals := 36 } : Room)) (fun a U => a = #[(.ref x)] ∧ Z.Warmed39 U.vm ∧ U.heap = h0) (fun _ _ _ _ _ => True) (fun _ U o U' => ∃ v L, o = .returned v ∧ Q_al Z x dv h0 n0 v U'.heap L ∧ FrameEnd U o U' L ({ frames := 3, cells := 0, slots := 0, locals := 36 } : Room).cells ({ frames := 3, cells := 0, slots := 0, locals := 36 } : Room).slots) := by
  refine MetFree.of_bodySF (plainFor_of_name pn_2) hisR ?_
  intro p e s m args below meth c s₁ Bd hml0 hP hK
  obtain ⟨rfl, hZ, hh⟩ := hP
  have hx := Bd.exec
  have hby := Bd.bytes
  have hml : c.maxLocals = 1 := hml0
  have hown : s.vm.findClass "java/util/ArrayList" = some m.cls := findClass_of_methodNamed Bd.named
  have hnm := (name_of_methodNamed Bd.named Bd.method).1
  have X0 : Stand p l e ({ frames := 3, cells := 0, slots := 0, locals := 36 } : Room) s m #[(.ref x)] below meth c s₁ [] 0 0 := Stand.of_body Bd
  have e0 : s₁.heap = h0 := by rw [← hh, Bd.state]; rfl
  have N0 := Fr.nil n0
  have pre0 : ∀ t, Steps p.tables e below (s₁.setTop (mkF m 0 #[.val (.ref x)] [])) t → Steps p.tables e below (s₁.setTop (entryFrame m #[(.ref x)] 1)) t := fun t k => castTop (ef_al m x) k
  have K0 := Keep.refl h0 [x]
  obtain ⟨_, _, ⟨T1, L1, k1, n1⟩, -, X1, ⟨Lc1, hQ1, l1, y1, z1⟩, st1⟩ := X0.specialBack hx (y := (⟨"java/util/AbstractList", "<init>", "()V"⟩ : MethodName)) rfl hown (mvT hZ (hw _ (List.mem_of_getElem? (i := 21) rfl))) (mvT hZ (hw _ (List.mem_of_getElem? (i := 22) rfl))) (mvT hZ (hw _ (List.mem_of_getElem? (i := 26) rfl))) (by decide) (backOf (W := 0) (rm_ab l Z a0 hw [] x  (h0) n0 Z0 k0_ k1_ k2_ k3_ k4_ ) hZ (hw _ (List.mem_of_getElem? (i := 26) rfl)) (hw _ (List.mem_of_getElem? (i := 25) rfl)) (by decide) (by decide)) (g := (mkF m 1 #[.val (.ref x)] [(.ref x)])) rfl (by rw [hml]; rfl) (Steps.refl _) (a := x) (argsL := []) (rest := []) (lenOf pd_0 rfl) rfl (by show 2 * 0 + _ ≤ _; exact Nat.le_of_eq rfl) (hb hby d4_1) (fun _ _ => ⟨rfl, e0, (by decide : 0 + 0 ≤ _), (by decide : 0 + 0 ≤ _)⟩)
  dsimp only [Pt.U, Pt.locs, Pt.cells, Pt.slots] at X1 l1 y1 z1 st1 hQ1
  rw [l1, y1, z1] at X1
  replace X1 : Stand _ _ _ _ _ _ _ _ _ _ _ _ 0 0 := X1
  obtain ⟨vq1, N1, K1, p1_0, p1_1, p1_2, p1_3⟩ := hQ1
  rw [vq1] at st1
  have Nn1 := Fr.app N0 N1
  have q2 : Old Z n0 T1.heap := (k5_.keep K1 (allS k4_ all0))
  have Z1 : n0 ≤ T1.heap.size := Nat.le_trans Z0 K1.1
  have KK1 := K0.trans K1 (fun _ hx => Or.inl hx)
  obtain ⟨T3, X3, e3, st3⟩ := getS X1 hx hZ (host := "") hown (hw _ (List.mem_of_getElem? (i := 36) rfl)) Via.refl rfl (SD.ext q2.2) (g := (mkF m 5 #[.val (.ref x)] [(.ref x)])) rfl (hb hby d4_5)
  obtain ⟨T4, h4, X4, e4, W4, st4⟩ := putF X3 hx hZ hown (host := "") (Or.inl (hw _ (List.mem_of_getElem? (i := 37) rfl))) Via.refl e3 p1_2 p1_0 (Or.inl (hw _ (List.mem_of_getElem? (i := 38) rfl))) (hw _ (List.mem_of_getElem? (i := 16) rfl)) (ty := (.array (.object "java/lang/Object"))) (by decide) rfl rfl (g := (mkF m 8 #[.val (.ref x)] [(.ref dv), (.ref x)])) rfl rfl (hb hby d4_8)
  have Nn4 := Fr.snoc X4 Nn1 k4_
  have q5 : Old Z n0 h4 := (q2.wr W4 k4_)
  have q6 : Exa Z h4 x "java/util/ArrayList" := (p1_0.wr W4)
  have q7 : Fld Z h4 x "java/util/AbstractList" "modCount" "I" (.int (0 : Int32)) := (p1_1.other W4 (Or.inr (slot_ne (a0 := a0) (C := "java/util/ArrayList") (Or.inl (hw _ (List.mem_of_getElem? (i := 35) rfl))) (Or.inl (hw _ (List.mem_of_getElem? (i := 38) rfl))) (by decide) (t := .int) (t' := (.array (.object "java/lang/Object"))) (by decide) (by decide))))
  have q8 : Fld Z h4 x "java/util/ArrayList" "size" "I" (.int (0 : Int32)) := (p1_3.other W4 (Or.inr (slot_ne (a0 := a0) (C := "java/util/ArrayList") (Or.inl (hw _ (List.mem_of_getElem? (i := 100) rfl))) (Or.inl (hw _ (List.mem_of_getElem? (i := 38) rfl))) (by decide) (t := .int) (t' := (.array (.object "java/lang/Object"))) (by decide) (by decide))))
  have q4n : Fld Z h4 x "java/util/ArrayList" "elementData" "[Ljava/lang/Object;" (.ref dv) := (p1_2.same W4)
  have K4 := KK1.wr W4 (Or.inl (List.mem_of_getElem? (i := 0) rfl))
  have Z4 : n0 ≤ h4.size := Nat.le_trans Z1 (Keep.of_wr W4).1
  obtain ⟨fs, hr, hrun, hended, hW, hsame⟩ := X4.leave (v := none) (fun _ => rfl)
  refine ⟨_, _, pre0 _ ?_, hrun, hended, _, _, rfl, ?_, ⟨_, rfl⟩, hW, hsame.mono (Nat.le_of_ble_eq_true rfl) (Nat.le_of_ble_eq_true rfl)⟩
  · show Steps p.tables e below (s₁.setTop (mkF m 0 #[.val (.ref x)] [])) _
    refine XS.aloadN X0.here hx rfl (hb hby d4_0) rfl rfl ?_
    show Steps p.tables e below (s₁.setTop (mkF m 1 #[.val (.ref x)] [(.ref x)])) _
    refine st1.trans ?_
    show Steps p.tables e below (T1.setTop (mkF m 4 #[.val (.ref x)] [])) _
    refine XS.aloadN X1.here hx rfl (hb hby d4_4) rfl rfl ?_
    show Steps p.tables e below (T1.setTop (mkF m 5 #[.val (.ref x)] [(.ref x)])) _
    refine st3 _ ?_
    show Steps p.tables e below (T3.setTop (mkF m 8 #[.val (.ref x)] [(.ref dv), (.ref x)])) _
    refine st4 _ ?_
    show Steps p.tables e below (T4.setTop (mkF m 11 #[.val (.ref x)] [])) _
    exact X4.returnOut hx Bd.returns (hb hby d4_11) hr
  · show Q_al Z x dv h0 n0 _ T4.heap _
    rw [e4]
    exact ⟨rfl, Nn4, K4, q6, q7, q4n, q8⟩
theorem ef_bi (m : MethodId) (x : Addr) (lim : Int32) (la : Addr) : entryFrame m #[(.ref x), (.int lim), (.ref la)] 3 = (mkF m 0 #[.val (.ref x), .val (.int lim), .val (.ref la)] []) := by first | (simp [entryFrame, mkF, argsToLocals, Value.category]; done) | rfl
def Q_bi (Z : State) (x : Addr) (lim : Int32) (la : Addr) (dv : Addr) (tn : Addr) (h0 : Heap) (n0 : Nat) (v : Option Value) (h : Heap) (L : List Loc) : Prop := ∃ (fl : Addr), v = none ∧ Fr n0 L ∧ Keep h0 h [x] ∧ (Exa Z h x "com/example/riskloom/riskloom/gateway/http/BodyBuffer") ∧ (Fld Z h x "com/example/riskloom/riskloom/gateway/http/BodyBuffer" "full" "Ljava/util/List;" (.ref fl)) ∧ (Fld Z h x "com/example/riskloom/riskloom/gateway/http/BodyBuffer" "last" "[B" (.ref tn)) ∧ (Fld Z h x "com/example/riskloom/riskloom/gateway/http/BodyBuffer" "limit" "I" (.int lim)) ∧ (Fld Z h x "com/example/riskloom/riskloom/gateway/http/BodyBuffer" "heap" "Ljava/util/function/IntFunction;" (.ref la)) ∧ (Fld Z h x "com/example/riskloom/riskloom/gateway/http/BodyBuffer" "lastLength" "I" (.int (0 : Int32))) ∧ (Fld Z h x "com/example/riskloom/riskloom/gateway/http/BodyBuffer" "length" "I" (.int (0 : Int32))) ∧ (Fld Z h x "com/example/riskloom/riskloom/gateway/http/BodyBuffer" "heldBytes" "J" (.long (0 : Int64))) ∧ (Exa Z h fl "java/util/ArrayList") ∧ (Fld Z h fl "java/util/ArrayList" "size" "I" (.int (0 : Int32))) ∧ (fl ≠ x)
set_option maxRecDepth 65536 in
set_option maxHeartbeats 40000000 in
theorem rm_bi (l : Launch) (Z : State) (a0 : Array Value) (hw : ∀ d ∈ tables_1, d.before a0 Z = true) (ws : List Jvm.Cond) (x : Addr) (lim : Int32) (la : Addr) (dv : Addr) (tn : Addr) (h0 : Heap) (n0 : Nat) (Z0 : n0 ≤ h0.size) (k0_ : Exa Z h0 x "com/example/riskloom/riskloom/gateway/http/BodyBuffer") (k1_ : Fld Z h0 x "com/example/riskloom/riskloom/gateway/http/BodyBuffer" "full" "Ljava/util/List;" .null) (k2_ : Fld Z h0 x "com/example/riskloom/riskloom/gateway/http/BodyBuffer" "last" "[B" .null) (k3_ : Fld Z h0 x "com/example/riskloom/riskloom/gateway/http/BodyBuffer" "limit" "I" (.int (0 : Int32))) (k4_ : Fld Z h0 x "com/example/riskloom/riskloom/gateway/http/BodyBuffer" "heap" "Ljava/util/function/IntFunction;" .null) (k5_ : Fld Z h0 x "com/example/riskloom/riskloom/gateway/http/BodyBuffer" "lastLength" "I" (.int (0 : Int32))) (k6_ : Fld Z h0 x "com/example/riskloom/riskloom/gateway/http/BodyBuffer" "length" "I" (.int (0 : Int32))) (k7_ : Fld Z h0 x "com/example/riskloom/riskloom/gateway/http/BodyBuffer" "heldBytes" "J" (.long (0 : Int64))) (k8_ : n0 ≤ x) (k9_ : Old Z n0 h0) (SD : Sta Z Z.heap "java/util/ArrayList" "DEFAULTCAPACITY_EMPTY_ELEMENTDATA" "[Ljava/lang/Object;" (.ref dv)) (SN : Sta Z Z.heap "com/example/riskloom/riskloom/gateway/http/BodyBuffer" "NONE" "[B" (.ref tn))  :
    MetFree l (⟨"com/example/riskloom/riskloom/gateway/http/BodyBuffer", "<init>", "(ILjava/util/function/IntFunction;)V"⟩ : MethodName) (head1 (Jvm.Cond.code (⟨"com/example/riskloom/riskloom/gateway/http/BodyBuffer", "<init>", "(ILjava/util/function/IntFunction;)V"⟩ : MethodName) prog_17_method_2_code 3 none :: ws) ({ frames := 4, cells := 1, slots := 3, locals := 50 } : Room)) (fun a U => a = #[(.ref x), (.int lim), (.ref la)] ∧ Z.Warmed39 U.vm ∧ U.heap = h0) (fun _ _ _ _ _ => True) (fun _ U o U' => ∃ v L, o = .returned v ∧ Q_bi Z x lim la dv tn h0 n0 v U'.heap L ∧ FrameEnd U o U' L ({ frames := 4, cells := 1, slots := 3, locals := 50 } : Room).cells ({ frames := 4, cells := 1, slots := 3, locals := 50 } : Room).slots) := by
  refine MetFree.of_bodySF (plainFor_of_name pn_3) hisR ?_
  intro p e s m args below meth c s₁ Bd hml0 hP hK
  obtain ⟨rfl, hZ, hh⟩ := hP
  have hx := Bd.exec
  have hby := Bd.bytes
  have hml : c.maxLocals = 3 := hml0
  have hown : s.vm.findClass "com/example/riskloom/riskloom/gateway/http/BodyBuffer" = some m.cls := findClass_of_methodNamed Bd.named
  have hnm := (name_of_methodNamed Bd.named Bd.method).1
  have X0 : Stand p l e ({ frames := 4, cells := 1, slots := 3, locals := 50 } : Room) s m #[(.ref x), (.int lim), (.ref la)] below meth c s₁ [] 0 0 := Stand.of_body Bd
  have e0 : s₁.heap = h0 := by rw [← hh, Bd.state]; rfl
  have N0 := Fr.nil n0
  have pre0 : ∀ t, Steps p.tables e below (s₁.setTop (mkF m 0 #[.val (.ref x), .val (.int lim), .val (.ref la)] [])) t → Steps p.tables e below (s₁.setTop (entryFrame m #[(.ref x), (.int lim), (.ref la)] 3)) t := fun t k => castTop (ef_bi m x lim la) k
  have K0 := Keep.refl h0 [x]
  obtain ⟨T1, X1, e1, st1⟩ := initO X0 hx hZ hown (hw _ (List.mem_of_getElem? (i := 12) rfl)) (hw _ (List.mem_of_getElem? (i := 13) rfl)) (hw _ (List.mem_of_getElem? (i := 14) rfl)) e0 (g := (mkF m 1 #[.val (.ref x), .val (.int lim), .val (.ref la)] [(.ref x)])) rfl (by rw [hml]; rfl) rfl (hb hby d2_1) (by decide) (W := 0) (by show 2 * 0 + _ ≤ _; exact Nat.le_of_eq rfl) (by decide)
  obtain ⟨T2, h2, X2, e2, E2, A2, D2, -, st2⟩ := newO X1 hx hZ hown (hw _ (List.mem_of_getElem? (i := 15) rfl)) (hw _ (List.mem_of_getElem? (i := 16) rfl)) (hw _ (List.mem_of_getElem? (i := 17) rfl)) e1 (g := (mkF m 5 #[.val (.ref x), .val (.int lim), .val (.ref la)] [(.ref x)])) rfl (hb hby d2_5) (by decide) (by decide)
  obtain ⟨ad2, g2⟩ : ∃ z, z = (h0).size := ⟨_, rfl⟩
  rw [← g2] at A2 D2 st2
  have ne_x_ad2 : x ≠ ad2 := Nat.ne_of_lt (Nat.lt_of_lt_of_le (k0_.lt) (Nat.le_of_eq g2.symm))
  have q3 : Exa Z h2 x "com/example/riskloom/riskloom/gateway/http/BodyBuffer" := (k0_.ext E2)
  have q4 : Fld Z h2 x "com/example/riskloom/riskloom/gateway/http/BodyBuffer" "full" "Ljava/util/List;" .null := (k1_.ext E2)
  have q5 : Fld Z h2 x "com/example/riskloom/riskloom/gateway/http/BodyBuffer" "last" "[B" .null := (k2_.ext E2)
  have q6 : Fld Z h2 x "com/example/riskloom/riskloom/gateway/http/BodyBuffer" "limit" "I" (.int (0 : Int32)) := (k3_.ext E2)
  have q7 : Fld Z h2 x "com/example/riskloom/riskloom/gateway/http/BodyBuffer" "heap" "Ljava/util/function/IntFunction;" .null := (k4_.ext E2)
  have q8 : Fld Z h2 x "com/example/riskloom/riskloom/gateway/http/BodyBuffer" "lastLength" "I" (.int (0 : Int32)) := (k5_.ext E2)
  have q9 : Fld Z h2 x "com/example/riskloom/riskloom/gateway/http/BodyBuffer" "length" "I" (.int (0 : Int32)) := (k6_.ext E2)
  have q10 : Fld Z h2 x "com/example/riskloom/riskloom/gateway/http/BodyBuffer" "heldBytes" "J" (.long (0 : Int64)) := (k7_.ext E2)
  have q11 : Old Z n0 h2 := (k9_.ext E2)
  have F2_0 : Fld Z h2 ad2 "java/util/AbstractList" "modCount" "I" (.int (0 : Int32)) := (D2 (Or.inl (hw _ (List.mem_of_getElem? (i := 35) rfl))) (ty := .int) (by decide))
  have F2_1 : Fld Z h2 ad2 "java/util/ArrayList" "elementData" "[Ljava/lang/Object;" .null := (D2 (Or.inl (hw _ (List.mem_of_getElem? (i := 38) rfl))) (ty := (.array (.object "java/lang/Object"))) (by decide))
  have F2_2 : Fld Z h2 ad2 "java/util/ArrayList" "size" "I" (.int (0 : Int32)) := (D2 (Or.inl (hw _ (List.mem_of_getElem? (i := 100) rfl))) (ty := .int) (by decide))
  have Z2 : n0 ≤ h2.size := Nat.le_trans Z0 E2.1
  have gn2 : n0 ≤ ad2 := Nat.le_trans Z0 (Nat.le_of_eq g2.symm)
  have f02 : h0.size ≤ ad2 := Nat.le_trans K0.1 (Nat.le_of_eq g2.symm)
  have K2 := K0.ext E2
  obtain ⟨_, _, ⟨T12, L12, k12, n12⟩, -, X12, ⟨Lc12, hQ12, l12, y12, z12⟩, st12⟩ := X2.specialBack hx (y := (⟨"java/util/ArrayList", "<init>", "()V"⟩ : MethodName)) rfl hown (mvT hZ (hw _ (List.mem_of_getElem? (i := 18) rfl))) (mvT hZ (hw _ (List.mem_of_getElem? (i := 19) rfl))) (mvT hZ (hw _ (List.mem_of_getElem? (i := 20) rfl))) (by decide) (backOf (W := 2) (rm_al l Z a0 hw [] ad2 dv (h2) n0 Z2 A2 F2_0 F2_1 F2_2 gn2 q11 SD) hZ (hw _ (List.mem_of_getElem? (i := 20) rfl)) (hw _ (List.mem_of_getElem? (i := 17) rfl)) (by decide) (by decide)) (g := (mkF m 9 #[.val (.ref x), .val (.int lim), .val (.ref la)] [(.ref ad2), (.ref ad2), (.ref x)])) rfl (by rw [hml]; rfl) (Steps.refl _) (a := ad2) (argsL := []) (rest := [(.ref ad2), (.ref x)]) (lenOf pd_0 rfl) rfl (by show 2 * 0 + _ ≤ _; exact Nat.le_of_eq rfl) (hb hby d2_9) (fun _ _ => ⟨rfl, e2, (by decide : 1 + 0 ≤ _), (by decide : 3 + 0 ≤ _)⟩)
  dsimp only [Pt.U, Pt.locs, Pt.cells, Pt.slots] at X12 l12 y12 z12 st12 hQ12
  rw [l12, y12, z12] at X12
  replace X12 : Stand _ _ _ _ _ _ _ _ _ _ _ _ 1 3 := X12
  obtain ⟨vq12, N12, K12, p12_0, p12_1, p12_2, p12_3⟩ := hQ12
  rw [vq12] at st12
  have Nn12 := Fr.app N0 N12
  have q13 : Exa Z T12.heap x "com/example/riskloom/riskloom/gateway/http/BodyBuffer" := (q3.keep K12)
  have q14 : Fld Z T12.heap x "com/example/riskloom/riskloom/gateway/http/BodyBuffer" "full" "Ljava/util/List;" .null := (q4.keep K12 (fun q => ne_x_ad2 (List.mem_singleton.mp q)))
  have q15 : Fld Z T12.heap x "com/example/riskloom/riskloom/gateway/http/BodyBuffer" "last" "[B" .null := (q5.keep K12 (fun q => ne_x_ad2 (List.mem_singleton.mp q)))
  have q16 : Fld Z T12.heap x "com/example/riskloom/riskloom/gateway/http/BodyBuffer" "limit" "I" (.int (0 : Int32)) := (q6.keep K12 (fun q => ne_x_ad2 (List.mem_singleton.mp q)))
  have q17 : Fld Z T12.heap x "com/example/riskloom/riskloom/gateway/http/BodyBuffer" "heap" "Ljava/util/function/IntFunction;" .null := (q7.keep K12 (fun q => ne_x_ad2 (List.mem_singleton.mp q)))
  have q18 : Fld Z T12.heap x "com/example/riskloom/riskloom/gateway/http/BodyBuffer" "lastLength" "I" (.int (0 : Int32)) := (q8.keep K12 (fun q => ne_x_ad2 (List.mem_singleton.mp q)))
  have q19 : Fld Z T12.heap x "com/example/riskloom/riskloom/gateway/http/BodyBuffer" "length" "I" (.int (0 : Int32)) := (q9.keep K12 (fun q => ne_x_ad2 (List.mem_singleton.mp q)))
  have q20 : Fld Z T12.heap x "com/example/riskloom/riskloom/gateway/http/BodyBuffer" "heldBytes" "J" (.long (0 : Int64)) := (q10.keep K12 (fun q => ne_x_ad2 (List.mem_singleton.mp q)))
  have q21 : Old Z n0 T12.heap := (q11.keep K12 (allS gn2 all0))
  have Z12 : n0 ≤ T12.heap.size := Nat.le_trans Z2 K12.1
  have KK12 := K2.trans K12 (fun x hx => Or.inr (by cases List.mem_singleton.mp hx; exact f02))
  obtain ⟨T22, h22, X22, e22, W22, st22⟩ := putF X12 hx hZ hown (host := "") (Or.inl (hw _ (List.mem_of_getElem? (i := 39) rfl))) Via.refl rfl q14 q13 (Or.inr ⟨(hw _ (List.mem_of_getElem? (i := 40) rfl)), rfl, hnm⟩) (hw _ (List.mem_of_getElem? (i := 1) rfl)) (ty := (.object "java/util/List")) (by decide) rfl rfl (g := (mkF m 12 #[.val (.ref x), .val (.int lim), .val (.ref la)] [(.ref ad2), (.ref x)])) rfl rfl (hb hby d2_12)
  have Nn22 := Fr.snoc X22 Nn12 k8_
  have q23 : Exa Z h22 x "com/example/riskloom/riskloom/gateway/http/BodyBuffer" := (q13.wr W22)
  have q24 : Fld Z h22 x "com/example/riskloom/riskloom/gateway/http/BodyBuffer" "last" "[B" .null := (q15.other W22 (Or.inr (slot_ne (a0 := a0) (C := "com/example/riskloom/riskloom/gateway/http/BodyBuffer") (Or.inl (hw _ (List.mem_of_getElem? (i := 44) rfl))) (Or.inr (hw _ (List.mem_of_getElem? (i := 40) rfl))) (by decide) (t := (.array .byte)) (t' := (.object "java/util/List")) (by decide) (by decide))))
  have q25 : Fld Z h22 x "com/example/riskloom/riskloom/gateway/http/BodyBuffer" "limit" "I" (.int (0 : Int32)) := (q16.other W22 (Or.inr (slot_ne (a0 := a0) (C := "com/example/riskloom/riskloom/gateway/http/BodyBuffer") (Or.inr (hw _ (List.mem_of_getElem? (i := 46) rfl))) (Or.inr (hw _ (List.mem_of_getElem? (i := 40) rfl))) (by decide) (t := .int) (t' := (.object "java/util/List")) (by decide) (by decide))))
  have q26 : Fld Z h22 x "com/example/riskloom/riskloom/gateway/http/BodyBuffer" "heap" "Ljava/util/function/IntFunction;" .null := (q17.other W22 (Or.inr (slot_ne (a0 := a0) (C := "com/example/riskloom/riskloom/gateway/http/BodyBuffer") (Or.inr (hw _ (List.mem_of_getElem? (i := 48) rfl))) (Or.inr (hw _ (List.mem_of_getElem? (i := 40) rfl))) (by decide) (t := (.object "java/util/function/IntFunction")) (t' := (.object "java/util/List")) (by decide) (by decide))))
  have q27 : Fld Z h22 x "com/example/riskloom/riskloom/gateway/http/BodyBuffer" "lastLength" "I" (.int (0 : Int32)) := (q18.other W22 (Or.inr (slot_ne (a0 := a0) (C := "com/example/riskloom/riskloom/gateway/http/BodyBuffer") (Or.inl (hw _ (List.mem_of_getElem? (i := 55) rfl))) (Or.inr (hw _ (List.mem_of_getElem? (i := 40) rfl))) (by decide) (t := .int) (t' := (.object "java/util/List")) (by decide) (by decide))))
  have q28 : Fld Z h22 x "com/example/riskloom/riskloom/gateway/http/BodyBuffer" "length" "I" (.int (0 : Int32)) := (q19.other W22 (Or.inr (slot_ne (a0 := a0) (C := "com/example/riskloom/riskloom/gateway/http/BodyBuffer") (Or.inl (hw _ (List.mem_of_getElem? (i := 57) rfl))) (Or.inr (hw _ (List.mem_of_getElem? (i := 40) rfl))) (by decide) (t := .int) (t' := (.object "java/util/List")) (by decide) (by decide))))
  have q29 : Fld Z h22 x "com/example/riskloom/riskloom/gateway/http/BodyBuffer" "heldBytes" "J" (.long (0 : Int64)) := (q20.other W22 (Or.inr (slot_ne (a0 := a0) (C := "com/example/riskloom/riskloom/gateway/http/BodyBuffer") (Or.inl (hw _ (List.mem_of_getElem? (i := 69) rfl))) (Or.inr (hw _ (List.mem_of_getElem? (i := 40) rfl))) (by decide) (t := .long) (t' := (.object "java/util/List")) (by decide) (by decide))))
  have q30 : Old Z n0 h22 := (q21.wr W22 k8_)
  have q31 : Exa Z h22 ad2 "java/util/ArrayList" := (p12_0.wr W22)
  have q32 : Fld Z h22 ad2 "java/util/AbstractList" "modCount" "I" (.int (0 : Int32)) := (p12_1.other W22 (Or.inl ne_x_ad2.symm))
  have q33 : Fld Z h22 ad2 "java/util/ArrayList" "elementData" "[Ljava/lang/Object;" (.ref dv) := (p12_2.other W22 (Or.inl ne_x_ad2.symm))
  have q34 : Fld Z h22 ad2 "java/util/ArrayList" "size" "I" (.int (0 : Int32)) := (p12_3.other W22 (Or.inl ne_x_ad2.symm))
  have q22n : Fld Z h22 x "com/example/riskloom/riskloom/gateway/http/BodyBuffer" "full" "Ljava/util/List;" (.ref ad2) := (q14.same W22)
  have K22 := KK12.wr W22 (Or.inl (List.mem_of_getElem? (i := 0) rfl))
  have Z22 : n0 ≤ h22.size := Nat.le_trans Z12 (Keep.of_wr W22).1
  obtain ⟨T35, X35, e35, st35⟩ := getS X22 hx hZ (host := "") hown (hw _ (List.mem_of_getElem? (i := 41) rfl)) Via.refl e22 (SN.ext q30.2) (g := (mkF m 16 #[.val (.ref x), .val (.int lim), .val (.ref la)] [(.ref x)])) rfl (hb hby d2_16)
  obtain ⟨T36, h36, X36, e36, W36, st36⟩ := putF X35 hx hZ hown (host := "") (Or.inl (hw _ (List.mem_of_getElem? (i := 43) rfl))) Via.refl e35 q24 q23 (Or.inl (hw _ (List.mem_of_getElem? (i := 44) rfl))) (hw _ (List.mem_of_getElem? (i := 1) rfl)) (ty := (.array .byte)) (by decide) rfl rfl (g := (mkF m 19 #[.val (.ref x), .val (.int lim), .val (.ref la)] [(.ref tn), (.ref x)])) rfl rfl (hb hby d2_19)
  have Nn36 := Fr.snoc X36 Nn22 k8_
  have q37 : Exa Z h36 x "com/example/riskloom/riskloom/gateway/http/BodyBuffer" := (q23.wr W36)
  have q38 : Fld Z h36 x "com/example/riskloom/riskloom/gateway/http/BodyBuffer" "limit" "I" (.int (0 : Int32)) := (q25.other W36 (Or.inr (slot_ne (a0 := a0) (C := "com/example/riskloom/riskloom/gateway/http/BodyBuffer") (Or.inr (hw _ (List.mem_of_getElem? (i := 46) rfl))) (Or.inl (hw _ (List.mem_of_getElem? (i := 44) rfl))) (by decide) (t := .int) (t' := (.array .byte)) (by decide) (by decide))))
  have q39 : Fld Z h36 x "com/example/riskloom/riskloom/gateway/http/BodyBuffer" "heap" "Ljava/util/function/IntFunction;" .null := (q26.other W36 (Or.inr (slot_ne (a0 := a0) (C := "com/example/riskloom/riskloom/gateway/http/BodyBuffer") (Or.inr (hw _ (List.mem_of_getElem? (i := 48) rfl))) (Or.inl (hw _ (List.mem_of_getElem? (i := 44) rfl))) (by decide) (t := (.object "java/util/function/IntFunction")) (t' := (.array .byte)) (by decide) (by decide))))
  have q40 : Fld Z h36 x "com/example/riskloom/riskloom/gateway/http/BodyBuffer" "lastLength" "I" (.int (0 : Int32)) := (q27.other W36 (Or.inr (slot_ne (a0 := a0) (C := "com/example/riskloom/riskloom/gateway/http/BodyBuffer") (Or.inl (hw _ (List.mem_of_getElem? (i := 55) rfl))) (Or.inl (hw _ (List.mem_of_getElem? (i := 44) rfl))) (by decide) (t := .int) (t' := (.array .byte)) (by decide) (by decide))))
  have q41 : Fld Z h36 x "com/example/riskloom/riskloom/gateway/http/BodyBuffer" "length" "I" (.int (0 : Int32)) := (q28.other W36 (Or.inr (slot_ne (a0 := a0) (C := "com/example/riskloom/riskloom/gateway/http/BodyBuffer") (Or.inl (hw _ (List.mem_of_getElem? (i := 57) rfl))) (Or.inl (hw _ (List.mem_of_getElem? (i := 44) rfl))) (by decide) (t := .int) (t' := (.array .byte)) (by decide) (by decide))))
  have q42 : Fld Z h36 x "com/example/riskloom/riskloom/gateway/http/BodyBuffer" "heldBytes" "J" (.long (0 : Int64)) := (q29.other W36 (Or.inr (slot_ne (a0 := a0) (C := "com/example/riskloom/riskloom/gateway/http/BodyBuffer") (Or.inl (hw _ (List.mem_of_getElem? (i := 69) rfl))) (Or.inl (hw _ (List.mem_of_getElem? (i := 44) rfl))) (by decide) (t := .long) (t' := (.array .byte)) (by decide) (by decide))))
  have q43 : Old Z n0 h36 := (q30.wr W36 k8_)
  have q44 : Exa Z h36 ad2 "java/util/ArrayList" := (q31.wr W36)
  have q45 : Fld Z h36 ad2 "java/util/AbstractList" "modCount" "I" (.int (0 : Int32)) := (q32.other W36 (Or.inl ne_x_ad2.symm))
  have q46 : Fld Z h36 ad2 "java/util/ArrayList" "elementData" "[Ljava/lang/Object;" (.ref dv) := (q33.other W36 (Or.inl ne_x_ad2.symm))
  have q47 : Fld Z h36 ad2 "java/util/ArrayList" "size" "I" (.int (0 : Int32)) := (q34.other W36 (Or.inl ne_x_ad2.symm))
  have q48 : Fld Z h36 x "com/example/riskloom/riskloom/gateway/http/BodyBuffer" "full" "Ljava/util/List;" (.ref ad2) := (q22n.other W36 (Or.inr (slot_ne (a0 := a0) (C := "com/example/riskloom/riskloom/gateway/http/BodyBuffer") (Or.inr (hw _ (List.mem_of_getElem? (i := 40) rfl))) (Or.inl (hw _ (List.mem_of_getElem? (i := 44) rfl))) (by decide) (t := (.object "java/util/List")) (t' := (.array .byte)) (by decide) (by decide))))
  have q36n : Fld Z h36 x "com/example/riskloom/riskloom/gateway/http/BodyBuffer" "last" "[B" (.ref tn) := (q24.same W36)
  have K36 := K22.wr W36 (Or.inl (List.mem_of_getElem? (i := 0) rfl))
  have Z36 : n0 ≤ h36.size := Nat.le_trans Z22 (Keep.of_wr W36).1
  obtain ⟨T49, h49, X49, e49, W49, st49⟩ := putF X36 hx hZ hown (host := "") (Or.inl (hw _ (List.mem_of_getElem? (i := 45) rfl))) Via.refl e36 q38 q37 (Or.inr ⟨(hw _ (List.mem_of_getElem? (i := 46) rfl)), rfl, hnm⟩) (hw _ (List.mem_of_getElem? (i := 1) rfl)) (ty := .int) (by decide) rfl rfl (g := (mkF m 24 #[.val (.ref x), .val (.int lim), .val (.ref la)] [(.int lim), (.ref x)])) rfl rfl (hb hby d2_24)
  have Nn49 := Fr.snoc X49 Nn36 k8_
  have q50 : Exa Z h49 x "com/example/riskloom/riskloom/gateway/http/BodyBuffer" := (q37.wr W49)
  have q51 : Fld Z h49 x "com/example/riskloom/riskloom/gateway/http/BodyBuffer" "heap" "Ljava/util/function/IntFunction;" .null := (q39.other W49 (Or.inr (slot_ne (a0 := a0) (C := "com/example/riskloom/riskloom/gateway/http/BodyBuffer") (Or.inr (hw _ (List.mem_of_getElem? (i := 48) rfl))) (Or.inr (hw _ (List.mem_of_getElem? (i := 46) rfl))) (by decide) (t := (.object "java/util/function/IntFunction")) (t' := .int) (by decide) (by decide))))
  have q52 : Fld Z h49 x "com/example/riskloom/riskloom/gateway/http/BodyBuffer" "lastLength" "I" (.int (0 : Int32)) := (q40.other W49 (Or.inr (slot_ne (a0 := a0) (C := "com/example/riskloom/riskloom/gateway/http/BodyBuffer") (Or.inl (hw _ (List.mem_of_getElem? (i := 55) rfl))) (Or.inr (hw _ (List.mem_of_getElem? (i := 46) rfl))) (by decide) (t := .int) (t' := .int) (by decide) (by decide))))
  have q53 : Fld Z h49 x "com/example/riskloom/riskloom/gateway/http/BodyBuffer" "length" "I" (.int (0 : Int32)) := (q41.other W49 (Or.inr (slot_ne (a0 := a0) (C := "com/example/riskloom/riskloom/gateway/http/BodyBuffer") (Or.inl (hw _ (List.mem_of_getElem? (i := 57) rfl))) (Or.inr (hw _ (List.mem_of_getElem? (i := 46) rfl))) (by decide) (t := .int) (t' := .int) (by decide) (by decide))))
  have q54 : Fld Z h49 x "com/example/riskloom/riskloom/gateway/http/BodyBuffer" "heldBytes" "J" (.long (0 : Int64)) := (q42.other W49 (Or.inr (slot_ne (a0 := a0) (C := "com/example/riskloom/riskloom/gateway/http/BodyBuffer") (Or.inl (hw _ (List.mem_of_getElem? (i := 69) rfl))) (Or.inr (hw _ (List.mem_of_getElem? (i := 46) rfl))) (by decide) (t := .long) (t' := .int) (by decide) (by decide))))
  have q55 : Old Z n0 h49 := (q43.wr W49 k8_)
  have q56 : Exa Z h49 ad2 "java/util/ArrayList" := (q44.wr W49)
  have q57 : Fld Z h49 ad2 "java/util/AbstractList" "modCount" "I" (.int (0 : Int32)) := (q45.other W49 (Or.inl ne_x_ad2.symm))
  have q58 : Fld Z h49 ad2 "java/util/ArrayList" "elementData" "[Ljava/lang/Object;" (.ref dv) := (q46.other W49 (Or.inl ne_x_ad2.symm))
  have q59 : Fld Z h49 ad2 "java/util/ArrayList" "size" "I" (.int (0 : Int32)) := (q47.other W49 (Or.inl ne_x_ad2.symm))
  have q60 : Fld Z h49 x "com/example/riskloom/riskloom/gateway/http/BodyBuffer" "full" "Ljava/util/List;" (.ref ad2) := (q48.other W49 (Or.inr (slot_ne (a0 := a0) (C := "com/example/riskloom/riskloom/gateway/http/BodyBuffer") (Or.inr (hw _ (List.mem_of_getElem? (i := 40) rfl))) (Or.inr (hw _ (List.mem_of_getElem? (i := 46) rfl))) (by decide) (t := (.object "java/util/List")) (t' := .int) (by decide) (by decide))))
  have q61 : Fld Z h49 x "com/example/riskloom/riskloom/gateway/http/BodyBuffer" "last" "[B" (.ref tn) := (q36n.other W49 (Or.inr (slot_ne (a0 := a0) (C := "com/example/riskloom/riskloom/gateway/http/BodyBuffer") (Or.inl (hw _ (List.mem_of_getElem? (i := 44) rfl))) (Or.inr (hw _ (List.mem_of_getElem? (i := 46) rfl))) (by decide) (t := (.array .byte)) (t' := .int) (by decide) (by decide))))
  have q49n : Fld Z h49 x "com/example/riskloom/riskloom/gateway/http/BodyBuffer" "limit" "I" (.int lim) := (q38.same W49)
  have K49 := K36.wr W49 (Or.inl (List.mem_of_getElem? (i := 0) rfl))
  have Z49 : n0 ≤ h49.size := Nat.le_trans Z36 (Keep.of_wr W49).1
  obtain ⟨T62, h62, X62, e62, W62, st62⟩ := putF X49 hx hZ hown (host := "") (Or.inl (hw _ (List.mem_of_getElem? (i := 47) rfl))) Via.refl e49 q51 q50 (Or.inr ⟨(hw _ (List.mem_of_getElem? (i := 48) rfl)), rfl, hnm⟩) (hw _ (List.mem_of_getElem? (i := 1) rfl)) (ty := (.object "java/util/function/IntFunction")) (by decide) rfl rfl (g := (mkF m 29 #[.val (.ref x), .val (.int lim), .val (.ref la)] [(.ref la), (.ref x)])) rfl rfl (hb hby d2_29)
  have Nn62 := Fr.snoc X62 Nn49 k8_
  have q63 : Exa Z h62 x "com/example/riskloom/riskloom/gateway/http/BodyBuffer" := (q50.wr W62)
  have q64 : Fld Z h62 x "com/example/riskloom/riskloom/gateway/http/BodyBuffer" "lastLength" "I" (.int (0 : Int32)) := (q52.other W62 (Or.inr (slot_ne (a0 := a0) (C := "com/example/riskloom/riskloom/gateway/http/BodyBuffer") (Or.inl (hw _ (List.mem_of_getElem? (i := 55) rfl))) (Or.inr (hw _ (List.mem_of_getElem? (i := 48) rfl))) (by decide) (t := .int) (t' := (.object "java/util/function/IntFunction")) (by decide) (by decide))))
  have q65 : Fld Z h62 x "com/example/riskloom/riskloom/gateway/http/BodyBuffer" "length" "I" (.int (0 : Int32)) := (q53.other W62 (Or.inr (slot_ne (a0 := a0) (C := "com/example/riskloom/riskloom/gateway/http/BodyBuffer") (Or.inl (hw _ (List.mem_of_getElem? (i := 57) rfl))) (Or.inr (hw _ (List.mem_of_getElem? (i := 48) rfl))) (by decide) (t := .int) (t' := (.object "java/util/function/IntFunction")) (by decide) (by decide))))
  have q66 : Fld Z h62 x "com/example/riskloom/riskloom/gateway/http/BodyBuffer" "heldBytes" "J" (.long (0 : Int64)) := (q54.other W62 (Or.inr (slot_ne (a0 := a0) (C := "com/example/riskloom/riskloom/gateway/http/BodyBuffer") (Or.inl (hw _ (List.mem_of_getElem? (i := 69) rfl))) (Or.inr (hw _ (List.mem_of_getElem? (i := 48) rfl))) (by decide) (t := .long) (t' := (.object "java/util/function/IntFunction")) (by decide) (by decide))))
  have q67 : Old Z n0 h62 := (q55.wr W62 k8_)
  have q68 : Exa Z h62 ad2 "java/util/ArrayList" := (q56.wr W62)
  have q69 : Fld Z h62 ad2 "java/util/AbstractList" "modCount" "I" (.int (0 : Int32)) := (q57.other W62 (Or.inl ne_x_ad2.symm))
  have q70 : Fld Z h62 ad2 "java/util/ArrayList" "elementData" "[Ljava/lang/Object;" (.ref dv) := (q58.other W62 (Or.inl ne_x_ad2.symm))
  have q71 : Fld Z h62 ad2 "java/util/ArrayList" "size" "I" (.int (0 : Int32)) := (q59.other W62 (Or.inl ne_x_ad2.symm))
  have q72 : Fld Z h62 x "com/example/riskloom/riskloom/gateway/http/BodyBuffer" "full" "Ljava/util/List;" (.ref ad2) := (q60.other W62 (Or.inr (slot_ne (a0 := a0) (C := "com/example/riskloom/riskloom/gateway/http/BodyBuffer") (Or.inr (hw _ (List.mem_of_getElem? (i := 40) rfl))) (Or.inr (hw _ (List.mem_of_getElem? (i := 48) rfl))) (by decide) (t := (.object "java/util/List")) (t' := (.object "java/util/function/IntFunction")) (by decide) (by decide))))
  have q73 : Fld Z h62 x "com/example/riskloom/riskloom/gateway/http/BodyBuffer" "last" "[B" (.ref tn) := (q61.other W62 (Or.inr (slot_ne (a0 := a0) (C := "com/example/riskloom/riskloom/gateway/http/BodyBuffer") (Or.inl (hw _ (List.mem_of_getElem? (i := 44) rfl))) (Or.inr (hw _ (List.mem_of_getElem? (i := 48) rfl))) (by decide) (t := (.array .byte)) (t' := (.object "java/util/function/IntFunction")) (by decide) (by decide))))
  have q74 : Fld Z h62 x "com/example/riskloom/riskloom/gateway/http/BodyBuffer" "limit" "I" (.int lim) := (q49n.other W62 (Or.inr (slot_ne (a0 := a0) (C := "com/example/riskloom/riskloom/gateway/http/BodyBuffer") (Or.inr (hw _ (List.mem_of_getElem? (i := 46) rfl))) (Or.inr (hw _ (List.mem_of_getElem? (i := 48) rfl))) (by decide) (t := .int) (t' := (.object "java/util/function/IntFunction")) (by decide) (by decide))))
  have q62n : Fld Z h62 x "com/example/riskloom/riskloom/gateway/http/BodyBuffer" "heap" "Ljava/util/function/IntFunction;" (.ref la) := (q51.same W62)
  have K62 := K49.wr W62 (Or.inl (List.mem_of_getElem? (i := 0) rfl))
  have Z62 : n0 ≤ h62.size := Nat.le_trans Z49 (Keep.of_wr W62).1
  obtain ⟨fs, hr, hrun, hended, hW, hsame⟩ := X62.leave (v := none) (fun _ => rfl)
  refine ⟨_, _, pre0 _ ?_, hrun, hended, _, _, rfl, ?_, ⟨_, rfl⟩, hW, hsame.mono (Nat.le_of_ble_eq_true rfl) (Nat.le_of_ble_eq_true rfl)⟩
  · show Steps p.tables e below (s₁.setTop (mkF m 0 #[.val (.ref x), .val (.int lim), .val (.ref la)] [])) _
    refine XS.aloadN X0.here hx rfl (hb hby d2_0) rfl rfl ?_
    show Steps p.tables e below (s₁.setTop (mkF m 1 #[.val (.ref x), .val (.int lim), .val (.ref la)] [(.ref x)])) _
    refine st1 _ ?_
    show Steps p.tables e below (T1.setTop (mkF m 4 #[.val (.ref x), .val (.int lim), .val (.ref la)] [])) _
    refine XS.aloadN X1.here hx rfl (hb hby d2_4) rfl rfl ?_
    show Steps p.tables e below (T1.setTop (mkF m 5 #[.val (.ref x), .val (.int lim), .val (.ref la)] [(.ref x)])) _
    refine st2 _ ?_
    show Steps p.tables e below (T2.setTop (mkF m 8 #[.val (.ref x), .val (.int lim), .val (.ref la)] [(.ref ad2), (.ref x)])) _
    refine XS.dup X2.here hx rfl (hb hby d2_8) rfl rfl ?_
    show Steps p.tables e below (T2.setTop (mkF m 9 #[.val (.ref x), .val (.int lim), .val (.ref la)] [(.ref ad2), (.ref ad2), (.ref x)])) _
    refine st12.trans ?_
    show Steps p.tables e below (T12.setTop (mkF m 12 #[.val (.ref x), .val (.int lim), .val (.ref la)] [(.ref ad2), (.ref x)])) _
    refine st22 _ ?_
    show Steps p.tables e below (T22.setTop (mkF m 15 #[.val (.ref x), .val (.int lim), .val (.ref la)] [])) _
    refine XS.aloadN X22.here hx rfl (hb hby d2_15) rfl rfl ?_
    show Steps p.tables e below (T22.setTop (mkF m 16 #[.val (.ref x), .val (.int lim), .val (.ref la)] [(.ref x)])) _
    refine st35 _ ?_
    show Steps p.tables e below (T35.setTop (mkF m 19 #[.val (.ref x), .val (.int lim), .val (.ref la)] [(.ref tn), (.ref x)])) _
    refine st36 _ ?_
    show Steps p.tables e below (T36.setTop (mkF m 22 #[.val (.ref x), .val (.int lim), .val (.ref la)] [])) _
    refine XS.aloadN X36.here hx rfl (hb hby d2_22) rfl rfl ?_
    show Steps p.tables e below (T36.setTop (mkF m 23 #[.val (.ref x), .val (.int lim), .val (.ref la)] [(.ref x)])) _
    refine XS.iloadN X36.here hx rfl (hb hby d2_23) rfl ?_
    show Steps p.tables e below (T36.setTop (mkF m 24 #[.val (.ref x), .val (.int lim), .val (.ref la)] [(.int lim), (.ref x)])) _
    refine st49 _ ?_
    show Steps p.tables e below (T49.setTop (mkF m 27 #[.val (.ref x), .val (.int lim), .val (.ref la)] [])) _
    refine XS.aloadN X49.here hx rfl (hb hby d2_27) rfl rfl ?_
    show Steps p.tables e below (T49.setTop (mkF m 28 #[.val (.ref x), .val (.int lim), .val (.ref la)] [(.ref x)])) _
    refine XS.aloadN X49.here hx rfl (hb hby d2_28) rfl rfl ?_
    show Steps p.tables e below (T49.setTop (mkF m 29 #[.val (.ref x), .val (.int lim), .val (.ref la)] [(.ref la), (.ref x)])) _
    refine st62 _ ?_
    show Steps p.tables e below (T62.setTop (mkF m 32 #[.val (.ref x), .val (.int lim), .val (.ref la)] [])) _
    exact X62.returnOut hx Bd.returns (hb hby d2_32) hr
  · show Q_bi Z x lim la dv tn h0 n0 _ T62.heap _
    rw [e62]
    exact ⟨ad2, rfl, Nn62, K62, q63, q72, q73, q74, q62n, q64, q65, q66, q68, q71, ne_x_ad2.symm⟩
theorem ef_bj (m : MethodId) (x : Addr) (lim : Int32) : entryFrame m #[(.ref x), (.int lim)] 2 = (mkF m 0 #[.val (.ref x), .val (.int lim)] []) := by first | (simp [entryFrame, mkF, argsToLocals, Value.category]; done) | rfl
def Q_bj (Z : State) (x : Addr) (lim : Int32) (dv : Addr) (tn : Addr) (la : Addr) (cK : ClassId) (h0 : Heap) (n0 : Nat) (v : Option Value) (h : Heap) (L : List Loc) : Prop := ∃ (fl : Addr), v = none ∧ Fr n0 L ∧ Keep h0 h [x] ∧ (Exa Z h x "com/example/riskloom/riskloom/gateway/http/BodyBuffer") ∧ (Fld Z h x "com/example/riskloom/riskloom/gateway/http/BodyBuffer" "full" "Ljava/util/List;" (.ref fl)) ∧ (Fld Z h x "com/example/riskloom/riskloom/gateway/http/BodyBuffer" "last" "[B" (.ref tn)) ∧ (Fld Z h x "com/example/riskloom/riskloom/gateway/http/BodyBuffer" "limit" "I" (.int lim)) ∧ (Fld Z h x "com/example/riskloom/riskloom/gateway/http/BodyBuffer" "heap" "Ljava/util/function/IntFunction;" (.ref la)) ∧ (Fld Z h x "com/example/riskloom/riskloom/gateway/http/BodyBuffer" "lastLength" "I" (.int (0 : Int32))) ∧ (Fld Z h x "com/example/riskloom/riskloom/gateway/http/BodyBuffer" "length" "I" (.int (0 : Int32))) ∧ (Fld Z h x "com/example/riskloom/riskloom/gateway/http/BodyBuffer" "heldBytes" "J" (.long (0 : Int64))) ∧ (Exa Z h fl "java/util/ArrayList") ∧ (Fld Z h fl "java/util/ArrayList" "size" "I" (.int (0 : Int32))) ∧ (fl ≠ x)
set_option maxRecDepth 65536 in
set_option maxHeartbeats 40000000 in
theorem rm_bj (l : Launch) (Z : State) (a0 : Array Value) (hw : ∀ d ∈ tables_1, d.before a0 Z = true) (ws : List Jvm.Cond) (x : Addr) (lim : Int32) (dv : Addr) (tn : Addr) (la : Addr) (cK : ClassId) (h0 : Heap) (n0 : Nat) (Z0 : n0 ≤ h0.size) (k0_ : Exa Z h0 x "com/example/riskloom/riskloom/gateway/http/BodyBuffer") (k1_ : Fld Z h0 x "com/example/riskloom/riskloom/gateway/http/BodyBuffer" "full" "Ljava/util/List;" .null) (k2_ : Fld Z h0 x "com/example/riskloom/riskloom/gateway/http/BodyBuffer" "last" "[B" .null) (k3_ : Fld Z h0 x "com/example/riskloom/riskloom/gateway/http/BodyBuffer" "limit" "I" (.int (0 : Int32))) (k4_ : Fld Z h0 x "com/example/riskloom/riskloom/gateway/http/BodyBuffer" "heap" "Ljava/util/function/IntFunction;" .null) (k5_ : Fld Z h0 x "com/example/riskloom/riskloom/gateway/http/BodyBuffer" "lastLength" "I" (.int (0 : Int32))) (k6_ : Fld Z h0 x "com/example/riskloom/riskloom/gateway/http/BodyBuffer" "length" "I" (.int (0 : Int32))) (k7_ : Fld Z h0 x "com/example/riskloom/riskloom/gateway/http/BodyBuffer" "heldBytes" "J" (.long (0 : Int64))) (k8_ : n0 ≤ x) (k9_ : Old Z n0 h0) (SD : Sta Z Z.heap "java/util/ArrayList" "DEFAULTCAPACITY_EMPTY_ELEMENTDATA" "[Ljava/lang/Object;" (.ref dv)) (SN : Sta Z Z.heap "com/example/riskloom/riskloom/gateway/http/BodyBuffer" "NONE" "[B" (.ref tn)) (LM : own_Lam Z la cK)  :
    MetFree l (⟨"com/example/riskloom/riskloom/gateway/http/BodyBuffer", "<init>", "(I)V"⟩ : MethodName) (head1 (Jvm.Cond.code (⟨"com/example/riskloom/riskloom/gateway/http/BodyBuffer", "<init>", "(I)V"⟩ : MethodName) prog_17_method_1_code 2 none :: ws) ({ frames := 5, cells := 1, slots := 3, locals := 3074 } : Room)) (fun a U => a = #[(.ref x), (.int lim)] ∧ Z.Warmed39 U.vm ∧ U.heap = h0) (fun _ _ _ _ _ => True) (fun _ U o U' => ∃ v L, o = .returned v ∧ Q_bj Z x lim dv tn la cK h0 n0 v U'.heap L ∧ FrameEnd U o U' L ({ frames := 5, cells := 1, slots := 3, locals := 3074 } : Room).cells ({ frames := 5, cells := 1, slots := 3, locals := 3074 } : Room).slots) := by
  refine MetFree.of_bodySF (plainFor_of_name pn_3) hisR ?_
  intro p e s m args below meth c s₁ Bd hml0 hP hK
  obtain ⟨rfl, hZ, hh⟩ := hP
  have hx := Bd.exec
  have hby := Bd.bytes
  have hml : c.maxLocals = 2 := hml0
  have hown : s.vm.findClass "com/example/riskloom/riskloom/gateway/http/BodyBuffer" = some m.cls := findClass_of_methodNamed Bd.named
  have hnm := (name_of_methodNamed Bd.named Bd.method).1
  have X0 : Stand p l e ({ frames := 5, cells := 1, slots := 3, locals := 3074 } : Room) s m #[(.ref x), (.int lim)] below meth c s₁ [] 0 0 := Stand.of_body Bd
  have e0 : s₁.heap = h0 := by rw [← hh, Bd.state]; rfl
  have N0 := Fr.nil n0
  have pre0 : ∀ t, Steps p.tables e below (s₁.setTop (mkF m 0 #[.val (.ref x), .val (.int lim)] [])) t → Steps p.tables e below (s₁.setTop (entryFrame m #[(.ref x), (.int lim)] 2)) t := fun t k => castTop (ef_bj m x lim) k
  have K0 := Keep.refl h0 [x]
  have st1 := own_site X0 hx hZ LM Bd.named (g := (mkF m 2 #[.val (.ref x), .val (.int lim)] [(.int lim), (.ref x)])) rfl rfl (by rw [hml]; rfl) (hb hby d1_2) (Nat.le_of_ble_eq_true rfl)
  obtain ⟨_, _, ⟨T2, L2, k2, n2⟩, -, X2, ⟨Lc2, hQ2, l2, y2, z2⟩, st2⟩ := X0.specialBack hx (y := (⟨"com/example/riskloom/riskloom/gateway/http/BodyBuffer", "<init>", "(ILjava/util/function/IntFunction;)V"⟩ : MethodName)) rfl hown (mvT hZ (hw _ (List.mem_of_getElem? (i := 9) rfl))) (mvT hZ (hw _ (List.mem_of_getElem? (i := 10) rfl))) (mvT hZ (hw _ (List.mem_of_getElem? (i := 11) rfl))) (by decide) (backOf (W := 0) (rm_bi l Z a0 hw [] x lim la dv tn (h0) n0 Z0 k0_ k1_ k2_ k3_ k4_ k5_ k6_ k7_ k8_ k9_ SD SN) hZ (hw _ (List.mem_of_getElem? (i := 11) rfl)) (hw _ (List.mem_of_getElem? (i := 2) rfl)) (by decide) (by decide)) (g := (mkF m 7 #[.val (.ref x), .val (.int lim)] [(.ref la), (.int lim), (.ref x)])) rfl (by rw [hml]; rfl) (Steps.refl _) (a := x) (argsL := [(.int lim), (.ref la)]) (rest := []) (lenOf pd_1 rfl) rfl (by show 2 * 0 + _ ≤ _; exact Nat.le_of_eq rfl) (hb hby d1_7) (fun _ _ => ⟨rfl, e0, (by decide : 0 + 1 ≤ _), (by decide : 0 + 3 ≤ _)⟩)
  dsimp only [Pt.U, Pt.locs, Pt.cells, Pt.slots] at X2 l2 y2 z2 st2 hQ2
  rw [l2, y2, z2] at X2
  replace X2 : Stand _ _ _ _ _ _ _ _ _ _ _ _ 1 3 := X2
  obtain ⟨x2_0, vq2, N2, K2, p2_0, p2_1, p2_2, p2_3, p2_4, p2_5, p2_6, p2_7, p2_8, p2_9, p2_10⟩ := hQ2
  rw [vq2] at st2
  have Nn2 := Fr.app N0 N2
  have q3 : Old Z n0 T2.heap := (k9_.keep K2 (allS k8_ all0))
  have Z2 : n0 ≤ T2.heap.size := Nat.le_trans Z0 K2.1
  have KK2 := K0.trans K2 (fun _ hx => Or.inl hx)
  obtain ⟨fs, hr, hrun, hended, hW, hsame⟩ := X2.leave (v := none) (fun _ => rfl)
  refine ⟨_, _, pre0 _ ?_, hrun, hended, _, _, rfl, ?_, ⟨_, rfl⟩, hW, hsame.mono (Nat.le_of_ble_eq_true rfl) (Nat.le_of_ble_eq_true rfl)⟩
  · show Steps p.tables e below (s₁.setTop (mkF m 0 #[.val (.ref x), .val (.int lim)] [])) _
    refine XS.aloadN X0.here hx rfl (hb hby d1_0) rfl rfl ?_
    show Steps p.tables e below (s₁.setTop (mkF m 1 #[.val (.ref x), .val (.int lim)] [(.ref x)])) _
    refine XS.iloadN X0.here hx rfl (hb hby d1_1) rfl ?_
    show Steps p.tables e below (s₁.setTop (mkF m 2 #[.val (.ref x), .val (.int lim)] [(.int lim), (.ref x)])) _
    refine st1 _ ?_
    show Steps p.tables e below (s₁.setTop (mkF m 7 #[.val (.ref x), .val (.int lim)] [(.ref la), (.int lim), (.ref x)])) _
    refine st2.trans ?_
    show Steps p.tables e below (T2.setTop (mkF m 10 #[.val (.ref x), .val (.int lim)] [])) _
    exact X2.returnOut hx Bd.returns (hb hby d1_10) hr
  · show Q_bj Z x lim dv tn la cK h0 n0 _ T2.heap _
    show _
    exact ⟨x2_0, rfl, Nn2, KK2, p2_0, p2_1, p2_2, p2_3, p2_4, p2_5, p2_6, p2_7, p2_8, p2_9, p2_10⟩
theorem ef_arr (m : MethodId) (x : Addr) : entryFrame m #[(.ref x)] 1 = (mkF m 0 #[.val (.ref x)] []) := by first | (simp [entryFrame, mkF, argsToLocals, Value.category]; done) | rfl
def Q_arr (Z : State) (x : Addr) (ar : Addr) (h0 : Heap) (n0 : Nat) (v : Option Value) (h : Heap) (L : List Loc) : Prop := v = some (.ref ar) ∧ Fr n0 L ∧ h = h0
set_option maxRecDepth 65536 in
set_option maxHeartbeats 40000000 in
theorem rm_arr (l : Launch) (Z : State) (a0 : Array Value) (hw : ∀ d ∈ tables_1, d.before a0 Z = true) (ws : List Jvm.Cond) (x : Addr) (ar : Addr) (h0 : Heap) (n0 : Nat) (Z0 : n0 ≤ h0.size) (k0_ : Fld Z h0 x "com/example/riskloom/riskloom/gateway/http/BodyBuffer" "last" "[B" (.ref ar))   :
    MetFree l (⟨"com/example/riskloom/riskloom/gateway/http/BodyBuffer", "array", "()[B"⟩ : MethodName) (head1 (Jvm.Cond.code (⟨"com/example/riskloom/riskloom/gateway/http/BodyBuffer", "array", "()[B"⟩ : MethodName) prog_17_method_6_code 1 (some (.array .byte)) :: ws) ({ frames := 0, cells := 0, slots := 0, locals := 0 } : Room)) (fun a U => a = #[(.ref x)] ∧ Z.Warmed39 U.vm ∧ U.heap = h0) (fun _ _ _ _ _ => True) (fun _ U o U' => ∃ v L, o = .returned v ∧ Q_arr Z x ar h0 n0 v U'.heap L ∧ FrameEnd U o U' L ({ frames := 0, cells := 0, slots := 0, locals := 0 } : Room).cells ({ frames := 0, cells := 0, slots := 0, locals := 0 } : Room).slots) := by
  refine MetFree.of_bodySF (plainFor_of_name pn_3) hisR ?_
  intro p e s m args below meth c s₁ Bd hml0 hP hK
  obtain ⟨rfl, hZ, hh⟩ := hP
  have hx := Bd.exec
  have hby := Bd.bytes
  have hml : c.maxLocals = 1 := hml0
  have hown : s.vm.findClass "com/example/riskloom/riskloom/gateway/http/BodyBuffer" = some m.cls := findClass_of_methodNamed Bd.named
  have hnm := (name_of_methodNamed Bd.named Bd.method).1
  have X0 : Stand p l e ({ frames := 0, cells := 0, slots := 0, locals := 0 } : Room) s m #[(.ref x)] below meth c s₁ [] 0 0 := Stand.of_body Bd
  have e0 : s₁.heap = h0 := by rw [← hh, Bd.state]; rfl
  have N0 := Fr.nil n0
  have pre0 : ∀ t, Steps p.tables e below (s₁.setTop (mkF m 0 #[.val (.ref x)] [])) t → Steps p.tables e below (s₁.setTop (entryFrame m #[(.ref x)] 1)) t := fun t k => castTop (ef_arr m x) k
  obtain ⟨T1, X1, e1, st1⟩ := getF X0 hx hZ hown (host := "") (Or.inl (hw _ (List.mem_of_getElem? (i := 43) rfl))) Via.refl e0 k0_ (g := (mkF m 1 #[.val (.ref x)] [(.ref x)])) rfl rfl (hb hby d8_1)
  obtain ⟨fs, hr, hrun, hended, hW, hsame⟩ := X1.leave (v := some (.ref ar)) (fun h => by rw [Bd.returns] at h; cases h)
  refine ⟨_, _, pre0 _ ?_, hrun, hended, _, _, rfl, ?_, ⟨_, rfl⟩, hW, hsame.mono (Nat.le_of_ble_eq_true rfl) (Nat.le_of_ble_eq_true rfl)⟩
  · show Steps p.tables e below (s₁.setTop (mkF m 0 #[.val (.ref x)] [])) _
    refine XS.aloadN X0.here hx rfl (hb hby d8_0) rfl rfl ?_
    show Steps p.tables e below (s₁.setTop (mkF m 1 #[.val (.ref x)] [(.ref x)])) _
    refine st1 _ ?_
    show Steps p.tables e below (T1.setTop (mkF m 4 #[.val (.ref x)] [(.ref ar)])) _
    exact retOut X1 hx Bd.returns rfl (Or.inr (Or.inr (Or.inr (Or.inr ⟨rfl, rfl, rfl⟩)))) (hb hby d8_4) hr
  · show Q_arr Z x ar h0 n0 _ T1.heap _
    exact ⟨rfl, N0, e1⟩
theorem ef_held (m : MethodId) (x : Addr) : entryFrame m #[(.ref x)] 1 = (mkF m 0 #[.val (.ref x)] []) := by first | (simp [entryFrame, mkF, argsToLocals, Value.category]; done) | rfl
def Q_held (Z : State) (x : Addr) (hb_ : Int64) (h0 : Heap) (n0 : Nat) (v : Option Value) (h : Heap) (L : List Loc) : Prop := v = some (.long hb_) ∧ Fr n0 L ∧ h = h0
set_option maxRecDepth 65536 in
set_option maxHeartbeats 40000000 in
theorem rm_held (l : Launch) (Z : State) (a0 : Array Value) (hw : ∀ d ∈ tables_1, d.before a0 Z = true) (ws : List Jvm.Cond) (x : Addr) (hb_ : Int64) (h0 : Heap) (n0 : Nat) (Z0 : n0 ≤ h0.size) (k0_ : Fld Z h0 x "com/example/riskloom/riskloom/gateway/http/BodyBuffer" "heldBytes" "J" (.long hb_))   :
    MetFree l (⟨"com/example/riskloom/riskloom/gateway/http/BodyBuffer", "heldBytes", "()J"⟩ : MethodName) (head1 (Jvm.Cond.code (⟨"com/example/riskloom/riskloom/gateway/http/BodyBuffer", "heldBytes", "()J"⟩ : MethodName) prog_17_method_9_code 1 (some .long) :: ws) ({ frames := 0, cells := 0, slots := 0, locals := 0 } : Room)) (fun a U => a = #[(.ref x)] ∧ Z.Warmed39 U.vm ∧ U.heap = h0) (fun _ _ _ _ _ => True) (fun _ U o U' => ∃ v L, o = .returned v ∧ Q_held Z x hb_ h0 n0 v U'.heap L ∧ FrameEnd U o U' L ({ frames := 0, cells := 0, slots := 0, locals := 0 } : Room).cells ({ frames := 0, cells := 0, slots := 0, locals := 0 } : Room).slots) := by
  refine MetFree.of_bodySF (plainFor_of_name pn_3) hisR ?_
  intro p e s m args below meth c s₁ Bd hml0 hP hK
  obtain ⟨rfl, hZ, hh⟩ := hP
  have hx := Bd.exec
  have hby := Bd.bytes
  have hml : c.maxLocals = 1 := hml0
  have hown : s.vm.findClass "com/example/riskloom/riskloom/gateway/http/BodyBuffer" = some m.cls := findClass_of_methodNamed Bd.named
  have hnm := (name_of_methodNamed Bd.named Bd.method).1
  have X0 : Stand p l e ({ frames := 0, cells := 0, slots := 0, locals := 0 } : Room) s m #[(.ref x)] below meth c s₁ [] 0 0 := Stand.of_body Bd
  have e0 : s₁.heap = h0 := by rw [← hh, Bd.state]; rfl
  have N0 := Fr.nil n0
  have pre0 : ∀ t, Steps p.tables e below (s₁.setTop (mkF m 0 #[.val (.ref x)] [])) t → Steps p.tables e below (s₁.setTop (entryFrame m #[(.ref x)] 1)) t := fun t k => castTop (ef_held m x) k
  obtain ⟨T1, X1, e1, st1⟩ := getF X0 hx hZ hown (host := "") (Or.inl (hw _ (List.mem_of_getElem? (i := 68) rfl))) Via.refl e0 k0_ (g := (mkF m 1 #[.val (.ref x)] [(.ref x)])) rfl rfl (hb hby d9_1)
  obtain ⟨fs, hr, hrun, hended, hW, hsame⟩ := X1.leave (v := some (.long hb_)) (fun h => by rw [Bd.returns] at h; cases h)
  refine ⟨_, _, pre0 _ ?_, hrun, hended, _, _, rfl, ?_, ⟨_, rfl⟩, hW, hsame.mono (Nat.le_of_ble_eq_true rfl) (Nat.le_of_ble_eq_true rfl)⟩
  · show Steps p.tables e below (s₁.setTop (mkF m 0 #[.val (.ref x)] [])) _
    refine XS.aloadN X0.here hx rfl (hb hby d9_0) rfl rfl ?_
    show Steps p.tables e below (s₁.setTop (mkF m 1 #[.val (.ref x)] [(.ref x)])) _
    refine st1 _ ?_
    show Steps p.tables e below (T1.setTop (mkF m 4 #[.val (.ref x)] [(.long hb_)])) _
    exact retOut X1 hx (t := .long) Bd.returns rfl (Or.inr (Or.inl ⟨rfl, rfl, _, rfl⟩)) (hb hby d9_4) hr
  · show Q_held Z x hb_ h0 n0 _ T1.heap _
    exact ⟨rfl, N0, e1⟩
theorem ef_pos (m : MethodId) (x : Addr) : entryFrame m #[(.ref x)] 1 = (mkF m 0 #[.val (.ref x)] []) := by first | (simp [entryFrame, mkF, argsToLocals, Value.category]; done) | rfl
def Q_pos (Z : State) (x : Addr) (ll : Int32) (h0 : Heap) (n0 : Nat) (v : Option Value) (h : Heap) (L : List Loc) : Prop := v = some (.int ll) ∧ Fr n0 L ∧ h = h0
set_option maxRecDepth 65536 in
set_option maxHeartbeats 40000000 in
theorem rm_pos (l : Launch) (Z : State) (a0 : Array Value) (hw : ∀ d ∈ tables_1, d.before a0 Z = true) (ws : List Jvm.Cond) (x : Addr) (ll : Int32) (h0 : Heap) (n0 : Nat) (Z0 : n0 ≤ h0.size) (k0_ : Fld Z h0 x "com/example/riskloom/riskloom/gateway/http/BodyBuffer" "lastLength" "I" (.int ll))   :
    MetFree l (⟨"com/example/riskloom/riskloom/gateway/http/BodyBuffer", "position", "()I"⟩ : MethodName) (head1 (Jvm.Cond.code (⟨"com/example/riskloom/riskloom/gateway/http/BodyBuffer", "position", "()I"⟩ : MethodName) prog_17_method_7_code 1 (some .int) :: ws) ({ frames := 0, cells := 0, slots := 0, locals := 0 } : Room)) (fun a U => a = #[(.ref x)] ∧ Z.Warmed39 U.vm ∧ U.heap = h0) (fun _ _ _ _ _ => True) (fun _ U o U' => ∃ v L, o = .returned v ∧ Q_pos Z x ll h0 n0 v U'.heap L ∧ FrameEnd U o U' L ({ frames := 0, cells := 0, slots := 0, locals := 0 } : Room).cells ({ frames := 0, cells := 0, slots := 0, locals := 0 } : Room).slots) := by
  refine MetFree.of_bodySF (plainFor_of_name pn_3) hisR ?_
  intro p e s m args below meth c s₁ Bd hml0 hP hK
  obtain ⟨rfl, hZ, hh⟩ := hP
  have hx := Bd.exec
  have hby := Bd.bytes
  have hml : c.maxLocals = 1 := hml0
  have hown : s.vm.findClass "com/example/riskloom/riskloom/gateway/http/BodyBuffer" = some m.cls := findClass_of_methodNamed Bd.named
  have hnm := (name_of_methodNamed Bd.named Bd.method).1
  have X0 : Stand p l e ({ frames := 0, cells := 0, slots := 0, locals := 0 } : Room) s m #[(.ref x)] below meth c s₁ [] 0 0 := Stand.of_body Bd
  have e0 : s₁.heap = h0 := by rw [← hh, Bd.state]; rfl
  have N0 := Fr.nil n0
  have pre0 : ∀ t, Steps p.tables e below (s₁.setTop (mkF m 0 #[.val (.ref x)] [])) t → Steps p.tables e below (s₁.setTop (entryFrame m #[(.ref x)] 1)) t := fun t k => castTop (ef_pos m x) k
  obtain ⟨T1, X1, e1, st1⟩ := getF X0 hx hZ hown (host := "") (Or.inl (hw _ (List.mem_of_getElem? (i := 54) rfl))) Via.refl e0 k0_ (g := (mkF m 1 #[.val (.ref x)] [(.ref x)])) rfl rfl (hb hby d11_1)
  obtain ⟨fs, hr, hrun, hended, hW, hsame⟩ := X1.leave (v := some (.int ll)) (fun h => by rw [Bd.returns] at h; cases h)
  refine ⟨_, _, pre0 _ ?_, hrun, hended, _, _, rfl, ?_, ⟨_, rfl⟩, hW, hsame.mono (Nat.le_of_ble_eq_true rfl) (Nat.le_of_ble_eq_true rfl)⟩
  · show Steps p.tables e below (s₁.setTop (mkF m 0 #[.val (.ref x)] [])) _
    refine XS.aloadN X0.here hx rfl (hb hby d11_0) rfl rfl ?_
    show Steps p.tables e below (s₁.setTop (mkF m 1 #[.val (.ref x)] [(.ref x)])) _
    refine st1 _ ?_
    show Steps p.tables e below (T1.setTop (mkF m 4 #[.val (.ref x)] [(.int ll)])) _
    exact retI X1 hx Bd.returns (hb hby d11_4) hr
  · show Q_pos Z x ll h0 n0 _ T1.heap _
    exact ⟨rfl, N0, e1⟩
theorem ef_len (m : MethodId) (x : Addr) : entryFrame m #[(.ref x)] 1 = (mkF m 0 #[.val (.ref x)] []) := by first | (simp [entryFrame, mkF, argsToLocals, Value.category]; done) | rfl
def Q_len (Z : State) (x : Addr) (ln : Int32) (h0 : Heap) (n0 : Nat) (v : Option Value) (h : Heap) (L : List Loc) : Prop := v = some (.int ln) ∧ Fr n0 L ∧ h = h0
set_option maxRecDepth 65536 in
set_option maxHeartbeats 40000000 in
theorem rm_len (l : Launch) (Z : State) (a0 : Array Value) (hw : ∀ d ∈ tables_1, d.before a0 Z = true) (ws : List Jvm.Cond) (x : Addr) (ln : Int32) (h0 : Heap) (n0 : Nat) (Z0 : n0 ≤ h0.size) (k0_ : Fld Z h0 x "com/example/riskloom/riskloom/gateway/http/BodyBuffer" "length" "I" (.int ln))   :
    MetFree l (⟨"com/example/riskloom/riskloom/gateway/http/BodyBuffer", "length", "()I"⟩ : MethodName) (head1 (Jvm.Cond.code (⟨"com/example/riskloom/riskloom/gateway/http/BodyBuffer", "length", "()I"⟩ : MethodName) prog_17_method_8_code 1 (some .int) :: ws) ({ frames := 0, cells := 0, slots := 0, locals := 0 } : Room)) (fun a U => a = #[(.ref x)] ∧ Z.Warmed39 U.vm ∧ U.heap = h0) (fun _ _ _ _ _ => True) (fun _ U o U' => ∃ v L, o = .returned v ∧ Q_len Z x ln h0 n0 v U'.heap L ∧ FrameEnd U o U' L ({ frames := 0, cells := 0, slots := 0, locals := 0 } : Room).cells ({ frames := 0, cells := 0, slots := 0, locals := 0 } : Room).slots) := by
  refine MetFree.of_bodySF (plainFor_of_name pn_3) hisR ?_
  intro p e s m args below meth c s₁ Bd hml0 hP hK
  obtain ⟨rfl, hZ, hh⟩ := hP
  have hx := Bd.exec
  have hby := Bd.bytes
  have hml : c.maxLocals = 1 := hml0
  have hown : s.vm.findClass "com/example/riskloom/riskloom/gateway/http/BodyBuffer" = some m.cls := findClass_of_methodNamed Bd.named
  have hnm := (name_of_methodNamed Bd.named Bd.method).1
  have X0 : Stand p l e ({ frames := 0, cells := 0, slots := 0, locals := 0 } : Room) s m #[(.ref x)] below meth c s₁ [] 0 0 := Stand.of_body Bd
  have e0 : s₁.heap = h0 := by rw [← hh, Bd.state]; rfl
  have N0 := Fr.nil n0
  have pre0 : ∀ t, Steps p.tables e below (s₁.setTop (mkF m 0 #[.val (.ref x)] [])) t → Steps p.tables e below (s₁.setTop (entryFrame m #[(.ref x)] 1)) t := fun t k => castTop (ef_len m x) k
  obtain ⟨T1, X1, e1, st1⟩ := getF X0 hx hZ hown (host := "") (Or.inl (hw _ (List.mem_of_getElem? (i := 56) rfl))) Via.refl e0 k0_ (g := (mkF m 1 #[.val (.ref x)] [(.ref x)])) rfl rfl (hb hby d12_1)
  obtain ⟨fs, hr, hrun, hended, hW, hsame⟩ := X1.leave (v := some (.int ln)) (fun h => by rw [Bd.returns] at h; cases h)
  refine ⟨_, _, pre0 _ ?_, hrun, hended, _, _, rfl, ?_, ⟨_, rfl⟩, hW, hsame.mono (Nat.le_of_ble_eq_true rfl) (Nat.le_of_ble_eq_true rfl)⟩
  · show Steps p.tables e below (s₁.setTop (mkF m 0 #[.val (.ref x)] [])) _
    refine XS.aloadN X0.here hx rfl (hb hby d12_0) rfl rfl ?_
    show Steps p.tables e below (s₁.setTop (mkF m 1 #[.val (.ref x)] [(.ref x)])) _
    refine st1 _ ?_
    show Steps p.tables e below (T1.setTop (mkF m 4 #[.val (.ref x)] [(.int ln)])) _
    exact retI X1 hx Bd.returns (hb hby d12_4) hr
  · show Q_len Z x ln h0 n0 _ T1.heap _
    exact ⟨rfl, N0, e1⟩
theorem ef_adv (m : MethodId) (x : Addr) (kk : Int32) : entryFrame m #[(.ref x), (.int kk)] 2 = (mkF m 0 #[.val (.ref x), .val (.int kk)] []) := by first | (simp [entryFrame, mkF, argsToLocals, Value.category]; done) | rfl
def Q_adv (Z : State) (x : Addr) (kk : Int32) (fl : Addr) (ar : Addr) (lim : Int32) (la : Addr) (ll : Int32) (ln : Int32) (hb_ : Int64) (h0 : Heap) (n0 : Nat) (v : Option Value) (h : Heap) (L : List Loc) : Prop := v = none ∧ Fr n0 L ∧ Keep h0 h [x] ∧ (Exa Z h x "com/example/riskloom/riskloom/gateway/http/BodyBuffer") ∧ (Fld Z h x "com/example/riskloom/riskloom/gateway/http/BodyBuffer" "full" "Ljava/util/List;" (.ref fl)) ∧ (Fld Z h x "com/example/riskloom/riskloom/gateway/http/BodyBuffer" "last" "[B" (.ref ar)) ∧ (Fld Z h x "com/example/riskloom/riskloom/gateway/http/BodyBuffer" "limit" "I" (.int lim)) ∧ (Fld Z h x "com/example/riskloom/riskloom/gateway/http/BodyBuffer" "heap" "Ljava/util/function/IntFunction;" (.ref la)) ∧ (Fld Z h x "com/example/riskloom/riskloom/gateway/http/BodyBuffer" "lastLength" "I" (.int (ll + kk))) ∧ (Fld Z h x "com/example/riskloom/riskloom/gateway/http/BodyBuffer" "length" "I" (.int (ln + kk))) ∧ (Fld Z h x "com/example/riskloom/riskloom/gateway/http/BodyBuffer" "heldBytes" "J" (.long hb_))
set_option maxRecDepth 65536 in
set_option maxHeartbeats 40000000 in
theorem rm_adv (l : Launch) (Z : State) (a0 : Array Value) (hw : ∀ d ∈ tables_1, d.before a0 Z = true) (ws : List Jvm.Cond) (x : Addr) (kk : Int32) (fl : Addr) (ar : Addr) (lim : Int32) (la : Addr) (ll : Int32) (ln : Int32) (hb_ : Int64) (h0 : Heap) (n0 : Nat) (Z0 : n0 ≤ h0.size) (k0_ : Exa Z h0 x "com/example/riskloom/riskloom/gateway/http/BodyBuffer") (k1_ : Fld Z h0 x "com/example/riskloom/riskloom/gateway/http/BodyBuffer" "full" "Ljava/util/List;" (.ref fl)) (k2_ : Fld Z h0 x "com/example/riskloom/riskloom/gateway/http/BodyBuffer" "last" "[B" (.ref ar)) (k3_ : Fld Z h0 x "com/example/riskloom/riskloom/gateway/http/BodyBuffer" "limit" "I" (.int lim)) (k4_ : Fld Z h0 x "com/example/riskloom/riskloom/gateway/http/BodyBuffer" "heap" "Ljava/util/function/IntFunction;" (.ref la)) (k5_ : Fld Z h0 x "com/example/riskloom/riskloom/gateway/http/BodyBuffer" "lastLength" "I" (.int ll)) (k6_ : Fld Z h0 x "com/example/riskloom/riskloom/gateway/http/BodyBuffer" "length" "I" (.int ln)) (k7_ : Fld Z h0 x "com/example/riskloom/riskloom/gateway/http/BodyBuffer" "heldBytes" "J" (.long hb_)) (k8_ : n0 ≤ x)   :
    MetFree l (⟨"com/example/riskloom/riskloom/gateway/http/BodyBuffer", "advance", "(I)V"⟩ : MethodName) (head1 (Jvm.Cond.code (⟨"com/example/riskloom/riskloom/gateway/http/BodyBuffer", "advance", "(I)V"⟩ : MethodName) prog_17_method_5_code 2 none :: ws) ({ frames := 0, cells := 0, slots := 0, locals := 0 } : Room)) (fun a U => a = #[(.ref x), (.int kk)] ∧ Z.Warmed39 U.vm ∧ U.heap = h0) (fun _ _ _ _ _ => True) (fun _ U o U' => ∃ v L, o = .returned v ∧ Q_adv Z x kk fl ar lim la ll ln hb_ h0 n0 v U'.heap L ∧ FrameEnd U o U' L ({ frames := 0, cells := 0, slots := 0, locals := 0 } : Room).cells ({ frames := 0, cells := 0, slots := 0, locals := 0 } : Room).slots) := by
  refine MetFree.of_bodySF (plainFor_of_name pn_3) hisR ?_
  intro p e s m args below meth c s₁ Bd hml0 hP hK
  obtain ⟨rfl, hZ, hh⟩ := hP
  have hx := Bd.exec
  have hby := Bd.bytes
  have hml : c.maxLocals = 2 := hml0
  have hown : s.vm.findClass "com/example/riskloom/riskloom/gateway/http/BodyBuffer" = some m.cls := findClass_of_methodNamed Bd.named
  have hnm := (name_of_methodNamed Bd.named Bd.method).1
  have X0 : Stand p l e ({ frames := 0, cells := 0, slots := 0, locals := 0 } : Room) s m #[(.ref x), (.int kk)] below meth c s₁ [] 0 0 := Stand.of_body Bd
  have e0 : s₁.heap = h0 := by rw [← hh, Bd.state]; rfl
  have N0 := Fr.nil n0
  have pre0 : ∀ t, Steps p.tables e below (s₁.setTop (mkF m 0 #[.val (.ref x), .val (.int kk)] [])) t → Steps p.tables e below (s₁.setTop (entryFrame m #[(.ref x), (.int kk)] 2)) t := fun t k => castTop (ef_adv m x kk) k
  have K0 := Keep.refl h0 [x]
  obtain ⟨T1, X1, e1, st1⟩ := getF X0 hx hZ hown (host := "") (Or.inl (hw _ (List.mem_of_getElem? (i := 54) rfl))) Via.refl e0 k5_ (g := (mkF m 2 #[.val (.ref x), .val (.int kk)] [(.ref x), (.ref x)])) rfl rfl (hb hby d10_2)
  obtain ⟨T2, h2, X2, e2, W2, st2⟩ := putF X1 hx hZ hown (host := "") (Or.inl (hw _ (List.mem_of_getElem? (i := 54) rfl))) Via.refl e1 k5_ k0_ (Or.inl (hw _ (List.mem_of_getElem? (i := 55) rfl))) (hw _ (List.mem_of_getElem? (i := 1) rfl)) (ty := .int) (by decide) rfl rfl (g := (mkF m 7 #[.val (.ref x), .val (.int kk)] [(.int (ll + kk)), (.ref x)])) rfl rfl (hb hby d10_7)
  have Nn2 := Fr.snoc X2 N0 k8_
  have q3 : Exa Z h2 x "com/example/riskloom/riskloom/gateway/http/BodyBuffer" := (k0_.wr W2)
  have q4 : Fld Z h2 x "com/example/riskloom/riskloom/gateway/http/BodyBuffer" "full" "Ljava/util/List;" (.ref fl) := (k1_.other W2 (Or.inr (slot_ne (a0 := a0) (C := "com/example/riskloom/riskloom/gateway/http/BodyBuffer") (Or.inr (hw _ (List.mem_of_getElem? (i := 40) rfl))) (Or.inl (hw _ (List.mem_of_getElem? (i := 55) rfl))) (by decide) (t := (.object "java/util/List")) (t' := .int) (by decide) (by decide))))
  have q5 : Fld Z h2 x "com/example/riskloom/riskloom/gateway/http/BodyBuffer" "last" "[B" (.ref ar) := (k2_.other W2 (Or.inr (slot_ne (a0 := a0) (C := "com/example/riskloom/riskloom/gateway/http/BodyBuffer") (Or.inl (hw _ (List.mem_of_getElem? (i := 44) rfl))) (Or.inl (hw _ (List.mem_of_getElem? (i := 55) rfl))) (by decide) (t := (.array .byte)) (t' := .int) (by decide) (by decide))))
  have q6 : Fld Z h2 x "com/example/riskloom/riskloom/gateway/http/BodyBuffer" "limit" "I" (.int lim) := (k3_.other W2 (Or.inr (slot_ne (a0 := a0) (C := "com/example/riskloom/riskloom/gateway/http/BodyBuffer") (Or.inr (hw _ (List.mem_of_getElem? (i := 46) rfl))) (Or.inl (hw _ (List.mem_of_getElem? (i := 55) rfl))) (by decide) (t := .int) (t' := .int) (by decide) (by decide))))
  have q7 : Fld Z h2 x "com/example/riskloom/riskloom/gateway/http/BodyBuffer" "heap" "Ljava/util/function/IntFunction;" (.ref la) := (k4_.other W2 (Or.inr (slot_ne (a0 := a0) (C := "com/example/riskloom/riskloom/gateway/http/BodyBuffer") (Or.inr (hw _ (List.mem_of_getElem? (i := 48) rfl))) (Or.inl (hw _ (List.mem_of_getElem? (i := 55) rfl))) (by decide) (t := (.object "java/util/function/IntFunction")) (t' := .int) (by decide) (by decide))))
  have q8 : Fld Z h2 x "com/example/riskloom/riskloom/gateway/http/BodyBuffer" "length" "I" (.int ln) := (k6_.other W2 (Or.inr (slot_ne (a0 := a0) (C := "com/example/riskloom/riskloom/gateway/http/BodyBuffer") (Or.inl (hw _ (List.mem_of_getElem? (i := 57) rfl))) (Or.inl (hw _ (List.mem_of_getElem? (i := 55) rfl))) (by decide) (t := .int) (t' := .int) (by decide) (by decide))))
  have q9 : Fld Z h2 x "com/example/riskloom/riskloom/gateway/http/BodyBuffer" "heldBytes" "J" (.long hb_) := (k7_.other W2 (Or.inr (slot_ne (a0 := a0) (C := "com/example/riskloom/riskloom/gateway/http/BodyBuffer") (Or.inl (hw _ (List.mem_of_getElem? (i := 69) rfl))) (Or.inl (hw _ (List.mem_of_getElem? (i := 55) rfl))) (by decide) (t := .long) (t' := .int) (by decide) (by decide))))
  have q2n : Fld Z h2 x "com/example/riskloom/riskloom/gateway/http/BodyBuffer" "lastLength" "I" (.int (ll + kk)) := (k5_.same W2)
  have K2 := K0.wr W2 (Or.inl (List.mem_of_getElem? (i := 0) rfl))
  have Z2 : n0 ≤ h2.size := Nat.le_trans Z0 (Keep.of_wr W2).1
  obtain ⟨T10, X10, e10, st10⟩ := getF X2 hx hZ hown (host := "") (Or.inl (hw _ (List.mem_of_getElem? (i := 56) rfl))) Via.refl e2 q8 (g := (mkF m 12 #[.val (.ref x), .val (.int kk)] [(.ref x), (.ref x)])) rfl rfl (hb hby d10_12)
  obtain ⟨T11, h11, X11, e11, W11, st11⟩ := putF X10 hx hZ hown (host := "") (Or.inl (hw _ (List.mem_of_getElem? (i := 56) rfl))) Via.refl e10 q8 q3 (Or.inl (hw _ (List.mem_of_getElem? (i := 57) rfl))) (hw _ (List.mem_of_getElem? (i := 1) rfl)) (ty := .int) (by decide) rfl rfl (g := (mkF m 17 #[.val (.ref x), .val (.int kk)] [(.int (ln + kk)), (.ref x)])) rfl rfl (hb hby d10_17)
  have Nn11 := Fr.snoc X11 Nn2 k8_
  have q12 : Exa Z h11 x "com/example/riskloom/riskloom/gateway/http/BodyBuffer" := (q3.wr W11)
  have q13 : Fld Z h11 x "com/example/riskloom/riskloom/gateway/http/BodyBuffer" "full" "Ljava/util/List;" (.ref fl) := (q4.other W11 (Or.inr (slot_ne (a0 := a0) (C := "com/example/riskloom/riskloom/gateway/http/BodyBuffer") (Or.inr (hw _ (List.mem_of_getElem? (i := 40) rfl))) (Or.inl (hw _ (List.mem_of_getElem? (i := 57) rfl))) (by decide) (t := (.object "java/util/List")) (t' := .int) (by decide) (by decide))))
  have q14 : Fld Z h11 x "com/example/riskloom/riskloom/gateway/http/BodyBuffer" "last" "[B" (.ref ar) := (q5.other W11 (Or.inr (slot_ne (a0 := a0) (C := "com/example/riskloom/riskloom/gateway/http/BodyBuffer") (Or.inl (hw _ (List.mem_of_getElem? (i := 44) rfl))) (Or.inl (hw _ (List.mem_of_getElem? (i := 57) rfl))) (by decide) (t := (.array .byte)) (t' := .int) (by decide) (by decide))))
  have q15 : Fld Z h11 x "com/example/riskloom/riskloom/gateway/http/BodyBuffer" "limit" "I" (.int lim) := (q6.other W11 (Or.inr (slot_ne (a0 := a0) (C := "com/example/riskloom/riskloom/gateway/http/BodyBuffer") (Or.inr (hw _ (List.mem_of_getElem? (i := 46) rfl))) (Or.inl (hw _ (List.mem_of_getElem? (i := 57) rfl))) (by decide) (t := .int) (t' := .int) (by decide) (by decide))))
  have q16 : Fld Z h11 x "com/example/riskloom/riskloom/gateway/http/BodyBuffer" "heap" "Ljava/util/function/IntFunction;" (.ref la) := (q7.other W11 (Or.inr (slot_ne (a0 := a0) (C := "com/example/riskloom/riskloom/gateway/http/BodyBuffer") (Or.inr (hw _ (List.mem_of_getElem? (i := 48) rfl))) (Or.inl (hw _ (List.mem_of_getElem? (i := 57) rfl))) (by decide) (t := (.object "java/util/function/IntFunction")) (t' := .int) (by decide) (by decide))))
  have q17 : Fld Z h11 x "com/example/riskloom/riskloom/gateway/http/BodyBuffer" "heldBytes" "J" (.long hb_) := (q9.other W11 (Or.inr (slot_ne (a0 := a0) (C := "com/example/riskloom/riskloom/gateway/http/BodyBuffer") (Or.inl (hw _ (List.mem_of_getElem? (i := 69) rfl))) (Or.inl (hw _ (List.mem_of_getElem? (i := 57) rfl))) (by decide) (t := .long) (t' := .int) (by decide) (by decide))))
  have q18 : Fld Z h11 x "com/example/riskloom/riskloom/gateway/http/BodyBuffer" "lastLength" "I" (.int (ll + kk)) := (q2n.other W11 (Or.inr (slot_ne (a0 := a0) (C := "com/example/riskloom/riskloom/gateway/http/BodyBuffer") (Or.inl (hw _ (List.mem_of_getElem? (i := 55) rfl))) (Or.inl (hw _ (List.mem_of_getElem? (i := 57) rfl))) (by decide) (t := .int) (t' := .int) (by decide) (by decide))))
  have q11n : Fld Z h11 x "com/example/riskloom/riskloom/gateway/http/BodyBuffer" "length" "I" (.int (ln + kk)) := (q8.same W11)
  have K11 := K2.wr W11 (Or.inl (List.mem_of_getElem? (i := 0) rfl))
  have Z11 : n0 ≤ h11.size := Nat.le_trans Z2 (Keep.of_wr W11).1
  obtain ⟨fs, hr, hrun, hended, hW, hsame⟩ := X11.leave (v := none) (fun _ => rfl)
  refine ⟨_, _, pre0 _ ?_, hrun, hended, _, _, rfl, ?_, ⟨_, rfl⟩, hW, hsame.mono (Nat.le_of_ble_eq_true rfl) (Nat.le_of_ble_eq_true rfl)⟩
  · show Steps p.tables e below (s₁.setTop (mkF m 0 #[.val (.ref x), .val (.int kk)] [])) _
    refine XS.aloadN X0.here hx rfl (hb hby d10_0) rfl rfl ?_
    show Steps p.tables e below (s₁.setTop (mkF m 1 #[.val (.ref x), .val (.int kk)] [(.ref x)])) _
    refine XS.dup X0.here hx rfl (hb hby d10_1) rfl rfl ?_
    show Steps p.tables e below (s₁.setTop (mkF m 2 #[.val (.ref x), .val (.int kk)] [(.ref x), (.ref x)])) _
    refine st1 _ ?_
    show Steps p.tables e below (T1.setTop (mkF m 5 #[.val (.ref x), .val (.int kk)] [(.int ll), (.ref x)])) _
    refine XS.iloadN X1.here hx rfl (hb hby d10_5) rfl ?_
    show Steps p.tables e below (T1.setTop (mkF m 6 #[.val (.ref x), .val (.int kk)] [(.int kk), (.int ll), (.ref x)])) _
    refine XS.iadd X1.here hx rfl (hb hby d10_6) rfl ?_
    show Steps p.tables e below (T1.setTop (mkF m 7 #[.val (.ref x), .val (.int kk)] [(.int (ll + kk)), (.ref x)])) _
    refine st2 _ ?_
    show Steps p.tables e below (T2.setTop (mkF m 10 #[.val (.ref x), .val (.int kk)] [])) _
    refine XS.aloadN X2.here hx rfl (hb hby d10_10) rfl rfl ?_
    show Steps p.tables e below (T2.setTop (mkF m 11 #[.val (.ref x), .val (.int kk)] [(.ref x)])) _
    refine XS.dup X2.here hx rfl (hb hby d10_11) rfl rfl ?_
    show Steps p.tables e below (T2.setTop (mkF m 12 #[.val (.ref x), .val (.int kk)] [(.ref x), (.ref x)])) _
    refine st10 _ ?_
    show Steps p.tables e below (T10.setTop (mkF m 15 #[.val (.ref x), .val (.int kk)] [(.int ln), (.ref x)])) _
    refine XS.iloadN X10.here hx rfl (hb hby d10_15) rfl ?_
    show Steps p.tables e below (T10.setTop (mkF m 16 #[.val (.ref x), .val (.int kk)] [(.int kk), (.int ln), (.ref x)])) _
    refine XS.iadd X10.here hx rfl (hb hby d10_16) rfl ?_
    show Steps p.tables e below (T10.setTop (mkF m 17 #[.val (.ref x), .val (.int kk)] [(.int (ln + kk)), (.ref x)])) _
    refine st11 _ ?_
    show Steps p.tables e below (T11.setTop (mkF m 20 #[.val (.ref x), .val (.int kk)] [])) _
    exact X11.returnOut hx Bd.returns (hb hby d10_20) hr
  · show Q_adv Z x kk fl ar lim la ll ln hb_ h0 n0 _ T11.heap _
    rw [e11]
    exact ⟨rfl, Nn11, K11, q12, q13, q14, q15, q16, q18, q11n, q17⟩
theorem ef_emp (m : MethodId) (x : Addr) : entryFrame m #[(.ref x)] 1 = (mkF m 0 #[.val (.ref x)] []) := by first | (simp [entryFrame, mkF, argsToLocals, Value.category]; done) | rfl
def Q_emp (Z : State) (x : Addr)  (h0 : Heap) (n0 : Nat) (v : Option Value) (h : Heap) (L : List Loc) : Prop := v = some (.int (1 : Int32)) ∧ Fr n0 L ∧ h = h0
set_option maxRecDepth 65536 in
set_option maxHeartbeats 40000000 in
theorem rm_emp (l : Launch) (Z : State) (a0 : Array Value) (hw : ∀ d ∈ tables_1, d.before a0 Z = true) (ws : List Jvm.Cond) (x : Addr)  (h0 : Heap) (n0 : Nat) (Z0 : n0 ≤ h0.size) (k0_ : Fld Z h0 x "java/util/ArrayList" "size" "I" (.int (0 : Int32)))   :
    MetFree l (⟨"java/util/ArrayList", "isEmpty", "()Z"⟩ : MethodName) (head1 (Jvm.Cond.code (⟨"java/util/ArrayList", "isEmpty", "()Z"⟩ : MethodName) jdk_38_method_9_code 1 (some .boolean) :: ws) ({ frames := 0, cells := 0, slots := 0, locals := 0 } : Room)) (fun a U => a = #[(.ref x)] ∧ Z.Warmed39 U.vm ∧ U.heap = h0) (fun _ _ _ _ _ => True) (fun _ U o U' => ∃ v L, o = .returned v ∧ Q_emp Z x  h0 n0 v U'.heap L ∧ FrameEnd U o U' L ({ frames := 0, cells := 0, slots := 0, locals := 0 } : Room).cells ({ frames := 0, cells := 0, slots := 0, locals := 0 } : Room).slots) := by
  refine MetFree.of_bodySF (plainFor_of_name pn_2) hisR ?_
  intro p e s m args below meth c s₁ Bd hml0 hP hK
  obtain ⟨rfl, hZ, hh⟩ := hP
  have hx := Bd.exec
  have hby := Bd.bytes
  have hml : c.maxLocals = 1 := hml0
  have hown : s.vm.findClass "java/util/ArrayList" = some m.cls := findClass_of_methodNamed Bd.named
  have hnm := (name_of_methodNamed Bd.named Bd.method).1
  have X0 : Stand p l e ({ frames := 0, cells := 0, slots := 0, locals := 0 } : Room) s m #[(.ref x)] below meth c s₁ [] 0 0 := Stand.of_body Bd
  have e0 : s₁.heap = h0 := by rw [← hh, Bd.state]; rfl
  have N0 := Fr.nil n0
  have pre0 : ∀ t, Steps p.tables e below (s₁.setTop (mkF m 0 #[.val (.ref x)] [])) t → Steps p.tables e below (s₁.setTop (entryFrame m #[(.ref x)] 1)) t := fun t k => castTop (ef_emp m x) k
  obtain ⟨T1, X1, e1, st1⟩ := getF X0 hx hZ hown (host := "") (Or.inl (hw _ (List.mem_of_getElem? (i := 99) rfl))) Via.refl e0 k0_ (g := (mkF m 1 #[.val (.ref x)] [(.ref x)])) rfl rfl (hb hby d14_1)
  obtain ⟨fs, hr, hrun, hended, hW, hsame⟩ := X1.leave (v := some (.int (1 : Int32))) (fun h => by rw [Bd.returns] at h; cases h)
  refine ⟨_, _, pre0 _ ?_, hrun, hended, _, _, rfl, ?_, ⟨_, rfl⟩, hW, hsame.mono (Nat.le_of_ble_eq_true rfl) (Nat.le_of_ble_eq_true rfl)⟩
  · show Steps p.tables e below (s₁.setTop (mkF m 0 #[.val (.ref x)] [])) _
    refine XS.aloadN X0.here hx rfl (hb hby d14_0) rfl rfl ?_
    show Steps p.tables e below (s₁.setTop (mkF m 1 #[.val (.ref x)] [(.ref x)])) _
    refine st1 _ ?_
    show Steps p.tables e below (T1.setTop (mkF m 4 #[.val (.ref x)] [(.int (0 : Int32))])) _
    refine XS.ifNo X1.here hx rfl (hb hby d14_4) rfl rfl ?_
    show Steps p.tables e below (T1.setTop (mkF m 7 #[.val (.ref x)] [])) _
    refine XS.iconst X1.here hx rfl (hb hby d14_7) ?_
    show Steps p.tables e below (T1.setTop (mkF m 8 #[.val (.ref x)] [(.int (1 : Int32))])) _
    refine XS.goto X1.here hx rfl (pc0 := 8) (pc' := 12) rfl (hb hby d14_8) (by decide) (by decide) ?_
    show Steps p.tables e below (T1.setTop (mkF m 12 #[.val (.ref x)] [(.int (1 : Int32))])) _
    exact retN X1 hx (t := .boolean) Bd.returns (by simp) (hb hby d14_12) hr
  · show Q_emp Z x  h0 n0 _ T1.heap _
    exact ⟨rfl, N0, e1⟩
theorem ef_mx (m : MethodId) (u : Int64) (w : Int64) : entryFrame m #[(.long u), (.long w)] 4 = (mkF m 0 #[.val (.long u), .second, .val (.long w), .second] []) := by first | (simp [entryFrame, mkF, argsToLocals, Value.category]; done) | rfl
def mx_res (u : Int64) (w : Int64) : Int64 := (if (ifCond.holds .lt (XT.cmpL u w)) = true then w else u)
def Q_mx (Z : State) (u : Int64) (w : Int64)  (h0 : Heap) (n0 : Nat) (v : Option Value) (h : Heap) (L : List Loc) : Prop := v = some (.long (mx_res u w)) ∧ Fr n0 L ∧ h = h0
set_option maxRecDepth 65536 in
set_option maxHeartbeats 40000000 in
theorem rm_mx (l : Launch) (Z : State) (a0 : Array Value) (hw : ∀ d ∈ tables_1, d.before a0 Z = true) (ws : List Jvm.Cond) (u : Int64) (w : Int64)  (h0 : Heap) (n0 : Nat) (Z0 : n0 ≤ h0.size)    :
    MetFree l (⟨"java/lang/Math", "max", "(JJ)J"⟩ : MethodName) (head1 (Jvm.Cond.code (⟨"java/lang/Math", "max", "(JJ)J"⟩ : MethodName) jdk_29_method_66_code 4 (some .long) :: ws) ({ frames := 0, cells := 0, slots := 0, locals := 0 } : Room)) (fun a U => a = #[(.long u), (.long w)] ∧ Z.Warmed39 U.vm ∧ U.heap = h0) (fun _ _ _ _ _ => True) (fun _ U o U' => ∃ v L, o = .returned v ∧ Q_mx Z u w  h0 n0 v U'.heap L ∧ FrameEnd U o U' L ({ frames := 0, cells := 0, slots := 0, locals := 0 } : Room).cells ({ frames := 0, cells := 0, slots := 0, locals := 0 } : Room).slots) := by
  refine MetFree.of_bodySF (Jvm.Free.JP.mathPlain rfl (by decide)) hisR ?_
  intro p e s m args below meth c s₁ Bd hml0 hP hK
  obtain ⟨rfl, hZ, hh⟩ := hP
  have hx := Bd.exec
  have hby := Bd.bytes
  have hml : c.maxLocals = 4 := hml0
  have hown : s.vm.findClass "java/lang/Math" = some m.cls := findClass_of_methodNamed Bd.named
  have hnm := (name_of_methodNamed Bd.named Bd.method).1
  have X0 : Stand p l e ({ frames := 0, cells := 0, slots := 0, locals := 0 } : Room) s m #[(.long u), (.long w)] below meth c s₁ [] 0 0 := Stand.of_body Bd
  have e0 : s₁.heap = h0 := by rw [← hh, Bd.state]; rfl
  have N0 := Fr.nil n0
  have pre0 : ∀ t, Steps p.tables e below (s₁.setTop (mkF m 0 #[.val (.long u), .second, .val (.long w), .second] [])) t → Steps p.tables e below (s₁.setTop (entryFrame m #[(.long u), (.long w)] 4)) t := fun t k => castTop (ef_mx m u w) k
  obtain ⟨fs, hr, hrun, hended, hW, hsame⟩ := X0.leave (v := some (.long (mx_res u w))) (fun h => by rw [Bd.returns] at h; cases h)
  refine ⟨_, _, pre0 _ ?_, hrun, hended, _, _, rfl, ?_, ⟨_, rfl⟩, hW, hsame.mono (Nat.le_of_ble_eq_true rfl) (Nat.le_of_ble_eq_true rfl)⟩
  · show Steps p.tables e below (s₁.setTop (mkF m 0 #[.val (.long u), .second, .val (.long w), .second] [])) _
    refine XT.lloadN X0.here hx rfl (hb hby d15_0) rfl ?_
    show Steps p.tables e below (s₁.setTop (mkF m 1 #[.val (.long u), .second, .val (.long w), .second] [(.long u)])) _
    refine XT.lloadN X0.here hx rfl (hb hby d15_1) rfl ?_
    show Steps p.tables e below (s₁.setTop (mkF m 2 #[.val (.long u), .second, .val (.long w), .second] [(.long w), (.long u)])) _
    refine XT.lcmp X0.here hx rfl (hb hby d15_2) rfl ?_
    show Steps p.tables e below (s₁.setTop (mkF m 3 #[.val (.long u), .second, .val (.long w), .second] [(.int (XT.cmpL u w))])) _
    by_cases c1 : (ifCond.holds .lt (XT.cmpL u w)) = true
    · refine XS.ifYes X0.here hx rfl (pc0 := 3) (pc' := 10) rfl (hb hby d15_3) rfl c1 (by decide) (by decide) ?_
      show Steps p.tables e below (s₁.setTop (mkF m 10 #[.val (.long u), .second, .val (.long w), .second] [])) _
      refine XT.lloadN X0.here hx rfl (hb hby d15_10) rfl ?_
      show Steps p.tables e below (s₁.setTop (mkF m 11 #[.val (.long u), .second, .val (.long w), .second] [(.long w)])) _
      have q : (mx_res u w) = w := by simp only [mx_res, c1, if_true, if_false, Bool.false_eq_true]; try rfl
      rw [q] at hr
      exact retOut X0 hx (t := .long) Bd.returns rfl (Or.inr (Or.inl ⟨rfl, rfl, _, rfl⟩)) (hb hby d15_11) hr
    · refine XS.ifNo X0.here hx rfl (hb hby d15_3) rfl (Bool.eq_false_iff.mpr c1) ?_
      show Steps p.tables e below (s₁.setTop (mkF m 6 #[.val (.long u), .second, .val (.long w), .second] [])) _
      refine XT.lloadN X0.here hx rfl (hb hby d15_6) rfl ?_
      show Steps p.tables e below (s₁.setTop (mkF m 7 #[.val (.long u), .second, .val (.long w), .second] [(.long u)])) _
      refine XS.goto X0.here hx rfl (pc0 := 7) (pc' := 11) rfl (hb hby d15_7) (by decide) (by decide) ?_
      show Steps p.tables e below (s₁.setTop (mkF m 11 #[.val (.long u), .second, .val (.long w), .second] [(.long u)])) _
      have q : (mx_res u w) = u := by simp only [mx_res, c1, if_true, if_false, Bool.false_eq_true]; try rfl
      rw [q] at hr
      exact retOut X0 hx (t := .long) Bd.returns rfl (Or.inr (Or.inl ⟨rfl, rfl, _, rfl⟩)) (hb hby d15_11) hr
  · show Q_mx Z u w  h0 n0 _ s₁.heap _
    exact ⟨rfl, N0, e0⟩
theorem ef_mn (m : MethodId) (u : Int64) (w : Int64) : entryFrame m #[(.long u), (.long w)] 4 = (mkF m 0 #[.val (.long u), .second, .val (.long w), .second] []) := by first | (simp [entryFrame, mkF, argsToLocals, Value.category]; done) | rfl
def mn_res (u : Int64) (w : Int64) : Int64 := (if (ifCond.holds .gt (XT.cmpL u w)) = true then w else u)
def Q_mn (Z : State) (u : Int64) (w : Int64)  (h0 : Heap) (n0 : Nat) (v : Option Value) (h : Heap) (L : List Loc) : Prop := v = some (.long (mn_res u w)) ∧ Fr n0 L ∧ h = h0
set_option maxRecDepth 65536 in
set_option maxHeartbeats 40000000 in
theorem rm_mn (l : Launch) (Z : State) (a0 : Array Value) (hw : ∀ d ∈ tables_1, d.before a0 Z = true) (ws : List Jvm.Cond) (u : Int64) (w : Int64)  (h0 : Heap) (n0 : Nat) (Z0 : n0 ≤ h0.size)    :
    MetFree l (⟨"java/lang/Math", "min", "(JJ)J"⟩ : MethodName) (head1 (Jvm.Cond.code (⟨"java/lang/Math", "min", "(JJ)J"⟩ : MethodName) jdk_29_method_70_code 4 (some .long) :: ws) ({ frames := 0, cells := 0, slots := 0, locals := 0 } : Room)) (fun a U => a = #[(.long u), (.long w)] ∧ Z.Warmed39 U.vm ∧ U.heap = h0) (fun _ _ _ _ _ => True) (fun _ U o U' => ∃ v L, o = .returned v ∧ Q_mn Z u w  h0 n0 v U'.heap L ∧ FrameEnd U o U' L ({ frames := 0, cells := 0, slots := 0, locals := 0 } : Room).cells ({ frames := 0, cells := 0, slots := 0, locals := 0 } : Room).slots) := by
  refine MetFree.of_bodySF (Jvm.Free.JP.mathPlain rfl (by decide)) hisR ?_
  intro p e s m args below meth c s₁ Bd hml0 hP hK
  obtain ⟨rfl, hZ, hh⟩ := hP
  have hx := Bd.exec
  have hby := Bd.bytes
  have hml : c.maxLocals = 4 := hml0
  have hown : s.vm.findClass "java/lang/Math" = some m.cls := findClass_of_methodNamed Bd.named
  have hnm := (name_of_methodNamed Bd.named Bd.method).1
  have X0 : Stand p l e ({ frames := 0, cells := 0, slots := 0, locals := 0 } : Room) s m #[(.long u), (.long w)] below meth c s₁ [] 0 0 := Stand.of_body Bd
  have e0 : s₁.heap = h0 := by rw [← hh, Bd.state]; rfl
  have N0 := Fr.nil n0
  have pre0 : ∀ t, Steps p.tables e below (s₁.setTop (mkF m 0 #[.val (.long u), .second, .val (.long w), .second] [])) t → Steps p.tables e below (s₁.setTop (entryFrame m #[(.long u), (.long w)] 4)) t := fun t k => castTop (ef_mn m u w) k
  obtain ⟨fs, hr, hrun, hended, hW, hsame⟩ := X0.leave (v := some (.long (mn_res u w))) (fun h => by rw [Bd.returns] at h; cases h)
  refine ⟨_, _, pre0 _ ?_, hrun, hended, _, _, rfl, ?_, ⟨_, rfl⟩, hW, hsame.mono (Nat.le_of_ble_eq_true rfl) (Nat.le_of_ble_eq_true rfl)⟩
  · show Steps p.tables e below (s₁.setTop (mkF m 0 #[.val (.long u), .second, .val (.long w), .second] [])) _
    refine XT.lloadN X0.here hx rfl (hb hby d16_0) rfl ?_
    show Steps p.tables e below (s₁.setTop (mkF m 1 #[.val (.long u), .second, .val (.long w), .second] [(.long u)])) _
    refine XT.lloadN X0.here hx rfl (hb hby d16_1) rfl ?_
    show Steps p.tables e below (s₁.setTop (mkF m 2 #[.val (.long u), .second, .val (.long w), .second] [(.long w), (.long u)])) _
    refine XT.lcmp X0.here hx rfl (hb hby d16_2) rfl ?_
    show Steps p.tables e below (s₁.setTop (mkF m 3 #[.val (.long u), .second, .val (.long w), .second] [(.int (XT.cmpL u w))])) _
    by_cases c1 : (ifCond.holds .gt (XT.cmpL u w)) = true
    · refine XS.ifYes X0.here hx rfl (pc0 := 3) (pc' := 10) rfl (hb hby d16_3) rfl c1 (by decide) (by decide) ?_
      show Steps p.tables e below (s₁.setTop (mkF m 10 #[.val (.long u), .second, .val (.long w), .second] [])) _
      refine XT.lloadN X0.here hx rfl (hb hby d16_10) rfl ?_
      show Steps p.tables e below (s₁.setTop (mkF m 11 #[.val (.long u), .second, .val (.long w), .second] [(.long w)])) _
      have q : (mn_res u w) = w := by simp only [mn_res, c1, if_true, if_false, Bool.false_eq_true]; try rfl
      rw [q] at hr
      exact retOut X0 hx (t := .long) Bd.returns rfl (Or.inr (Or.inl ⟨rfl, rfl, _, rfl⟩)) (hb hby d16_11) hr
    · refine XS.ifNo X0.here hx rfl (hb hby d16_3) rfl (Bool.eq_false_iff.mpr c1) ?_
      show Steps p.tables e below (s₁.setTop (mkF m 6 #[.val (.long u), .second, .val (.long w), .second] [])) _
      refine XT.lloadN X0.here hx rfl (hb hby d16_6) rfl ?_
      show Steps p.tables e below (s₁.setTop (mkF m 7 #[.val (.long u), .second, .val (.long w), .second] [(.long u)])) _
      refine XS.goto X0.here hx rfl (pc0 := 7) (pc' := 11) rfl (hb hby d16_7) (by decide) (by decide) ?_
      show Steps p.tables e below (s₁.setTop (mkF m 11 #[.val (.long u), .second, .val (.long w), .second] [(.long u)])) _
      have q : (mn_res u w) = u := by simp only [mn_res, c1, if_true, if_false, Bool.false_eq_true]; try rfl
      rw [q] at hr
      exact retOut X0 hx (t := .long) Bd.returns rfl (Or.inr (Or.inl ⟨rfl, rfl, _, rfl⟩)) (hb hby d16_11) hr
  · show Q_mn Z u w  h0 n0 _ s₁.heap _
    exact ⟨rfl, N0, e0⟩
theorem ef_lam (m : MethodId) (n : Int32) : entryFrame m #[(.int n)] 1 = (mkF m 0 #[.val (.int n)] []) := by first | (simp [entryFrame, mkF, argsToLocals, Value.category]; done) | rfl
def Q_lam (Z : State) (n : Int32)  (h0 : Heap) (n0 : Nat) (v : Option Value) (h : Heap) (L : List Loc) : Prop := ∃ (ad : Addr) (kx : ClassId), v = some (.ref ad) ∧ Fr n0 L ∧ Keep h0 h [] ∧ h0.size ≤ ad ∧ (Arv Z h ad kx .byte n [] (.int (0 : Int32))) ∧ (Exa Z h ad "[B")
set_option maxRecDepth 65536 in
set_option maxHeartbeats 40000000 in
theorem rm_lam (l : Launch) (Z : State) (a0 : Array Value) (hw : ∀ d ∈ tables_1, d.before a0 Z = true) (ws : List Jvm.Cond) (n : Int32)  (h0 : Heap) (n0 : Nat) (Z0 : n0 ≤ h0.size)  (hn0 : ¬ n < 0) (hn8 : n.toNatClampNeg ≤ 8192)  :
    MetFree l (⟨"com/example/riskloom/riskloom/gateway/http/BodyBuffer", "lambda$new$0", "(I)[B"⟩ : MethodName) (head1 (Jvm.Cond.code (⟨"com/example/riskloom/riskloom/gateway/http/BodyBuffer", "lambda$new$0", "(I)[B"⟩ : MethodName) prog_17_method_12_code 1 (some (.array .byte)) :: ws) ({ frames := 0, cells := 1, slots := 8192, locals := 0 } : Room)) (fun a U => a = #[(.int n)] ∧ Z.Warmed39 U.vm ∧ U.heap = h0) (fun _ _ _ _ _ => True) (fun _ U o U' => ∃ v L, o = .returned v ∧ Q_lam Z n  h0 n0 v U'.heap L ∧ FrameEnd U o U' L ({ frames := 0, cells := 1, slots := 8192, locals := 0 } : Room).cells ({ frames := 0, cells := 1, slots := 8192, locals := 0 } : Room).slots) := by
  refine MetFree.of_bodySF (plainFor_of_name pn_3) hisR ?_
  intro p e s m args below meth c s₁ Bd hml0 hP hK
  obtain ⟨rfl, hZ, hh⟩ := hP
  have hx := Bd.exec
  have hby := Bd.bytes
  have hml : c.maxLocals = 1 := hml0
  have hown : s.vm.findClass "com/example/riskloom/riskloom/gateway/http/BodyBuffer" = some m.cls := findClass_of_methodNamed Bd.named
  have hnm := (name_of_methodNamed Bd.named Bd.method).1
  have X0 : Stand p l e ({ frames := 0, cells := 1, slots := 8192, locals := 0 } : Room) s m #[(.int n)] below meth c s₁ [] 0 0 := Stand.of_body Bd
  have e0 : s₁.heap = h0 := by rw [← hh, Bd.state]; rfl
  have N0 := Fr.nil n0
  have pre0 : ∀ t, Steps p.tables e below (s₁.setTop (mkF m 0 #[.val (.int n)] [])) t → Steps p.tables e below (s₁.setTop (entryFrame m #[(.int n)] 1)) t := fun t k => castTop (ef_lam m n) k
  have K0 := Keep.refl h0 []
  obtain ⟨T1, h1, kA1, X1, e1, E1, A1, B1, st1⟩ := newPE X0 hx hZ (hw _ (List.mem_of_getElem? (i := 116) rfl)) e0 (g := (mkF m 1 #[.val (.int n)] [(.int n)])) rfl (hb hby d17_1) rfl hn0 (cap := 8192) hn8 (by decide) (by decide) (by decide) (ad := "[B") (by decide +kernel)
  obtain ⟨ad1, g1⟩ : ∃ z, z = (h0).size := ⟨_, rfl⟩
  rw [← g1] at A1 B1 st1
  have V1 : Arv Z h1 ad1 kA1 .byte n [] (.int (0 : Int32)) := Arv.new A1 hn0
  have Z1 : n0 ≤ h1.size := Nat.le_trans Z0 E1.1
  have gn1 : n0 ≤ ad1 := Nat.le_trans Z0 (Nat.le_of_eq g1.symm)
  have f01 : h0.size ≤ ad1 := Nat.le_trans K0.1 (Nat.le_of_eq g1.symm)
  have K1 := K0.ext E1
  obtain ⟨fs, hr, hrun, hended, hW, hsame⟩ := X1.leave (v := some (.ref ad1)) (fun h => by rw [Bd.returns] at h; cases h)
  refine ⟨_, _, pre0 _ ?_, hrun, hended, _, _, rfl, ?_, ⟨_, rfl⟩, hW, hsame.mono (Nat.le_of_ble_eq_true rfl) (Nat.le_of_ble_eq_true rfl)⟩
  · show Steps p.tables e below (s₁.setTop (mkF m 0 #[.val (.int n)] [])) _
    refine XS.iloadN X0.here hx rfl (hb hby d17_0) rfl ?_
    show Steps p.tables e below (s₁.setTop (mkF m 1 #[.val (.int n)] [(.int n)])) _
    refine st1 _ ?_
    show Steps p.tables e below (T1.setTop (mkF m 3 #[.val (.int n)] [(.ref ad1)])) _
    exact retOut X1 hx Bd.returns rfl (Or.inr (Or.inr (Or.inr (Or.inr ⟨rfl, rfl, rfl⟩)))) (hb hby d17_3) hr
  · show Q_lam Z n  h0 n0 _ T1.heap _
    rw [e1]
    exact ⟨ad1, kA1, rfl, N0, K1, f01, V1, B1⟩
theorem own_met {l : Launch} {y : MethodName} {bytes : ByteArray} {maxL : Nat} {ret : Option FieldType} {rm : Room} {Q : Option Value → Heap → List Loc → Prop} {n0 : Nat} {P : Array Value → State → Prop}
    (hM : MetFree l y (head1 [Cond.code y bytes maxL ret] rm) P (fun _ _ _ _ _ => True) (fun _ U o U' => ∃ v L, o = .returned v ∧ Q v U'.heap L ∧ FrameEnd U o U' L rm.cells rm.slots)) (hQ : ∀ v h L, Q v h L → Fr n0 L) :
    Met l y [Cond.code y bytes maxL ret] rm P (fun _ _ o t => ∃ v L, o = .returned v ∧ Q v t.heap L) rm.cells rm.slots (fun b => n0 ≤ b) :=
  MetFree.mono hM (fun _ _ h => h) (fun _ _ _ _ _ h => h) (fun _ _ _ _ _ ⟨v, L, h1, h2, h3⟩ => ⟨⟨v, L, h1, h2⟩, L, h3, hQ _ _ _ h2⟩)
theorem own_madeS {Z s : State} {cK : ClassId} (hZ : Z.WarmedH s.vm) (h : Jvm.LamKit.Made Z own_BB own_σ cK) : Jvm.LamKit.Made s own_BB own_σ cK := by
  obtain ⟨d, dk, h1, h2, h3, h4⟩ := h
  obtain ⟨k', q1, q2⟩ := hZ.alike.2.2 _ _ h1
  have hA := hZ.alike
  refine ⟨d, k', q1, by rw [q2]; exact h2, Lambda.isMade_warmer hZ h3, ?_⟩
  simp only [State.lambdaCallable, hA.findClass, hA.assignable, hA.superclasses, hA.declaredIn] at h4 ⊢
  exact h4
theorem own_fnAt {Z : State} {n0 : Nat} {h : Heap} {a : Addr} {cK : ClassId} {T : State} (O : Old Z n0 h) (F : Jvm.LamKit.FnAt Z.heap a cK) (e : T.heap = h) : Jvm.LamKit.FnAt T.heap a cK := by
  obtain ⟨cell, h1, h2⟩ := F
  exact ⟨cell, by rw [e]; exact O.2.2 _ _ h1, h2⟩
def mr_cap (lim : Int32) : Int32 := (Int64.toInt32 (mn_res (mn_res (mx_res (Int32.toInt64 (8192 : Int32)) ((2 : Int64) * (Int32.toInt64 (0 : Int32)))) (262144 : Int64)) ((Int32.toInt64 (0 : Int32)) + (Int32.toInt64 (lim - (0 : Int32))))))
theorem own_mn (u w : Int64) : (mn_res u w).toInt = if w.toInt < u.toInt then w.toInt else u.toInt := by
  unfold mn_res
  by_cases c : ifCond.holds .gt (XT.cmpL u w) = true
  · have q := (own_h_gt _).mp c
    rw [own_L] at q
    rw [if_pos c]
    by_cases a : w.toInt < u.toInt
    · rw [if_pos a]
    · rw [if_neg a] at q; split at q <;> omega
  · have q : ¬ 0 < (XT.cmpL u w).toInt := fun q => c ((own_h_gt _).mpr q)
    rw [own_L] at q
    rw [if_neg c]
    by_cases a : w.toInt < u.toInt
    · rw [if_pos a] at q; omega
    · rw [if_neg a]
theorem own_mrA : mn_res (mx_res (Int32.toInt64 (8192 : Int32)) ((2 : Int64) * (Int32.toInt64 (0 : Int32)))) (262144 : Int64) = 8192 := by decide +kernel
theorem own_mrB (lim : Int32) : ((Int32.toInt64 (0 : Int32)) + (Int32.toInt64 (lim - (0 : Int32)))).toInt = lim.toInt := by
  have e : (Int32.toInt64 (0 : Int32)) + (Int32.toInt64 (lim - (0 : Int32))) = Int32.toInt64 lim := by
    have e1 : lim - (0 : Int32) = lim := Int32.sub_zero lim
    have e2 : Int32.toInt64 (0 : Int32) = 0 := by decide
    rw [e1, e2, Int64.zero_add]
  rw [e, Int32.toInt_toInt64]
theorem own_capv (lim : Int32) : (mr_cap lim).toInt = if lim.toInt < 8192 then lim.toInt else 8192 := by
  have l1 := lim.toInt_lt; have l2 := lim.le_toInt
  have e8 : (8192 : Int64).toInt = 8192 := rfl
  have h := own_mn 8192 ((Int32.toInt64 (0 : Int32)) + (Int32.toInt64 (lim - (0 : Int32))))
  rw [own_mrB, e8] at h
  unfold mr_cap
  rw [own_mrA, Int64.toInt_toInt32, h]
  split
  · exact Jvm.Kit.bmod32 (by omega) (by omega)
  · exact Jvm.Kit.bmod32 (by omega) (by omega)
theorem own_cap0 {lim : Int32} (h : 0 < lim.toInt) : ¬ mr_cap lim < 0 := by
  have e0 : (0 : Int32).toInt = 0 := rfl
  rw [Int32.lt_iff_toInt_lt, own_capv, e0]
  split <;> omega
theorem own_cap8 {lim : Int32} (h : 0 < lim.toInt) : (mr_cap lim).toNatClampNeg ≤ 8192 := by
  have q := own_capv lim
  unfold Int32.toNatClampNeg
  rw [q]
  split <;> omega
theorem own_ret {Z : State} {n : Int32} {h : Heap} {n0 : Nat} {v : Option Value} {t : State} (q : ∃ v' L, Outcome.returned v = .returned v' ∧ Q_lam Z n h n0 v' t.heap L) : Jvm.LamKit.RetOK (some (.object "java/lang/Object")) .areturn v := by
  obtain ⟨v', L, e, ad, kx, hv, -⟩ := q
  cases e
  subst hv
  exact Or.inr (Or.inr (Or.inl ⟨_, _, rfl, rfl, rfl, rfl, rfl⟩))
theorem own_lim {lim : Int32} (h : 0 < lim.toInt) : if_icmp.holds .ge (0 : Int32) lim = false := by
  refine own_f_of (own_c_ge _ _) ?_
  have e0 : (0 : Int32).toInt = 0 := rfl
  rw [e0]; omega
theorem ef_mr (m : MethodId) (x : Addr) : entryFrame m #[(.ref x), (.int (8192 : Int32))] 7 = (mkF m 0 #[.val (.ref x), .val (.int (8192 : Int32)), .unset, .unset, .unset, .unset, .unset] []) := by first | (simp [entryFrame, mkF, argsToLocals, Value.category]; done) | rfl
def Q_mr (Z : State) (x : Addr) (fl : Addr) (tn : Addr) (lim : Int32) (la : Addr) (kn : ClassId) (cK : ClassId) (h0 : Heap) (n0 : Nat) (v : Option Value) (h : Heap) (L : List Loc) : Prop := ∃ (an : Addr) (kx : ClassId), v = none ∧ Fr n0 L ∧ Keep h0 h [x] ∧ (Exa Z h x "com/example/riskloom/riskloom/gateway/http/BodyBuffer") ∧ (Fld Z h x "com/example/riskloom/riskloom/gateway/http/BodyBuffer" "full" "Ljava/util/List;" (.ref fl)) ∧ (Fld Z h x "com/example/riskloom/riskloom/gateway/http/BodyBuffer" "last" "[B" (.ref an)) ∧ (Fld Z h x "com/example/riskloom/riskloom/gateway/http/BodyBuffer" "limit" "I" (.int lim)) ∧ (Fld Z h x "com/example/riskloom/riskloom/gateway/http/BodyBuffer" "heap" "Ljava/util/function/IntFunction;" (.ref la)) ∧ (Fld Z h x "com/example/riskloom/riskloom/gateway/http/BodyBuffer" "lastLength" "I" (.int (0 : Int32))) ∧ (Fld Z h x "com/example/riskloom/riskloom/gateway/http/BodyBuffer" "length" "I" (.int (0 : Int32))) ∧ (Fld Z h x "com/example/riskloom/riskloom/gateway/http/BodyBuffer" "heldBytes" "J" (.long ((0 : Int64) + (Int32.toInt64 ((mr_cap lim) - (0 : Int32)))))) ∧ (Arv Z h an kx .byte (mr_cap lim) [] (.int (0 : Int32))) ∧ (n0 ≤ an) ∧ (an ≠ x)
set_option maxRecDepth 65536 in
set_option maxHeartbeats 40000000 in
theorem rm_mr (l : Launch) (Z : State) (a0 : Array Value) (hw : ∀ d ∈ tables_1, d.before a0 Z = true) (ws : List Jvm.Cond) (x : Addr) (fl : Addr) (tn : Addr) (lim : Int32) (la : Addr) (kn : ClassId) (cK : ClassId) (h0 : Heap) (n0 : Nat) (Z0 : n0 ≤ h0.size) (k0_ : Exa Z h0 x "com/example/riskloom/riskloom/gateway/http/BodyBuffer") (k1_ : Fld Z h0 x "com/example/riskloom/riskloom/gateway/http/BodyBuffer" "full" "Ljava/util/List;" (.ref fl)) (k2_ : Fld Z h0 x "com/example/riskloom/riskloom/gateway/http/BodyBuffer" "last" "[B" (.ref tn)) (k3_ : Fld Z h0 x "com/example/riskloom/riskloom/gateway/http/BodyBuffer" "limit" "I" (.int lim)) (k4_ : Fld Z h0 x "com/example/riskloom/riskloom/gateway/http/BodyBuffer" "heap" "Ljava/util/function/IntFunction;" (.ref la)) (k5_ : Fld Z h0 x "com/example/riskloom/riskloom/gateway/http/BodyBuffer" "lastLength" "I" (.int (0 : Int32))) (k6_ : Fld Z h0 x "com/example/riskloom/riskloom/gateway/http/BodyBuffer" "length" "I" (.int (0 : Int32))) (k7_ : Fld Z h0 x "com/example/riskloom/riskloom/gateway/http/BodyBuffer" "heldBytes" "J" (.long (0 : Int64))) (k8_ : Exa Z h0 fl "java/util/ArrayList") (k9_ : Fld Z h0 fl "java/util/ArrayList" "size" "I" (.int (0 : Int32))) (k10_ : Arv Z h0 tn kn .byte (0 : Int32) [] (.int (0 : Int32))) (k11_ : n0 ≤ x) (k12_ : Old Z n0 h0) (k13_ : fl ≠ x) (k14_ : tn ≠ x) (LM : own_Lam Z la cK) (hl : 0 < lim.toInt)  :
    MetFree l (⟨"com/example/riskloom/riskloom/gateway/http/BodyBuffer", "makeRoom", "(I)V"⟩ : MethodName) (head1 (Jvm.Cond.code (⟨"com/example/riskloom/riskloom/gateway/http/BodyBuffer", "makeRoom", "(I)V"⟩ : MethodName) prog_17_method_11_code 7 none :: ws) ({ frames := 2, cells := 1, slots := 8192, locals := 40 } : Room)) (fun a U => a = #[(.ref x), (.int (8192 : Int32))] ∧ Z.WarmedH U.vm ∧ U.heap = h0) (fun _ _ _ _ _ => True) (fun _ U o U' => ∃ v L, o = .returned v ∧ Q_mr Z x fl tn lim la kn cK h0 n0 v U'.heap L ∧ FrameEnd U o U' L ({ frames := 2, cells := 1, slots := 8192, locals := 40 } : Room).cells ({ frames := 2, cells := 1, slots := 8192, locals := 40 } : Room).slots) := by
  refine MetFree.of_bodySF (plainFor_of_name pn_3) hisR ?_
  intro p e s m args below meth c s₁ Bd hml0 hP hK
  obtain ⟨rfl, hZH, hh⟩ := hP
  have hZ := hZH.wide
  have hx := Bd.exec
  have hby := Bd.bytes
  have hml : c.maxLocals = 7 := hml0
  have hown : s.vm.findClass "com/example/riskloom/riskloom/gateway/http/BodyBuffer" = some m.cls := findClass_of_methodNamed Bd.named
  have hnm := (name_of_methodNamed Bd.named Bd.method).1
  have X0 : Stand p l e ({ frames := 2, cells := 1, slots := 8192, locals := 40 } : Room) s m #[(.ref x), (.int (8192 : Int32))] below meth c s₁ [] 0 0 := Stand.of_body Bd
  have e0 : s₁.heap = h0 := by rw [← hh, Bd.state]; rfl
  have N0 := Fr.nil n0
  have pre0 : ∀ t, Steps p.tables e below (s₁.setTop (mkF m 0 #[.val (.ref x), .val (.int (8192 : Int32)), .unset, .unset, .unset, .unset, .unset] [])) t → Steps p.tables e below (s₁.setTop (entryFrame m #[(.ref x), (.int (8192 : Int32))] 7)) t := fun t k => castTop (ef_mr m x) k
  have K0 := Keep.refl h0 [x]
  obtain ⟨T1, X1, e1, st1⟩ := getF X0 hx hZ hown (host := "") (Or.inl (hw _ (List.mem_of_getElem? (i := 45) rfl))) Via.refl e0 k3_ (g := (mkF m 1 #[.val (.ref x), .val (.int (8192 : Int32)), .unset, .unset, .unset, .unset, .unset] [(.ref x)])) rfl rfl (hb hby d13_1)
  obtain ⟨T2, X2, e2, st2⟩ := getF X1 hx hZ hown (host := "") (Or.inl (hw _ (List.mem_of_getElem? (i := 56) rfl))) Via.refl e1 k6_ (g := (mkF m 5 #[.val (.ref x), .val (.int (8192 : Int32)), .unset, .unset, .unset, .unset, .unset] [(.ref x), (.int lim)])) rfl rfl (hb hby d13_5)
  obtain ⟨T3, X3, e3, st3⟩ := getF X2 hx hZ hown (host := "") (Or.inl (hw _ (List.mem_of_getElem? (i := 39) rfl))) Via.refl e2 k1_ (g := (mkF m 11 #[.val (.ref x), .val (.int (8192 : Int32)), .val (.int (lim - (0 : Int32))), .unset, .unset, .unset, .unset] [(.ref x)])) rfl rfl (hb hby d13_11)
  obtain ⟨cq4, kq4, qa4, qb4, qc4⟩ := isOf hZ e3 k8_
  obtain ⟨_, _, ⟨T4, L4, k4, n4⟩, -, X4, ⟨Lc4, hQ4, l4, y4, z4⟩, st4⟩ := X3.interfaceBack hx (xi := (⟨"java/util/List", "isEmpty", "()Z"⟩ : MethodName)) (y := (⟨"java/util/ArrayList", "isEmpty", "()Z"⟩ : MethodName)) hown (mvT hZ (hw _ (List.mem_of_getElem? (i := 90) rfl))) (mvT hZ (hw _ (List.mem_of_getElem? (i := 91) rfl))) (mvT hZ (hw _ (List.mem_of_getElem? (i := 92) rfl))) (mvT hZ (hw _ (List.mem_of_getElem? (i := 93) rfl))) (mvT hZ (hw _ (List.mem_of_getElem? (i := 94) rfl))) (mvT hZ (hw _ (List.mem_of_getElem? (i := 95) rfl))) (mvT hZ (hw _ (List.mem_of_getElem? (i := 96) rfl))) (mvT hZ (hw _ (List.mem_of_getElem? (i := 97) rfl))) (by decide) (backOf (W := 0) (rm_emp l Z a0 hw [] fl  (h0) n0 Z0 k9_ ) hZ (hw _ (List.mem_of_getElem? (i := 98) rfl)) (hw _ (List.mem_of_getElem? (i := 17) rfl)) (by decide) (by decide)) qa4 qb4 qc4 (g := (mkF m 14 #[.val (.ref x), .val (.int (8192 : Int32)), .val (.int (lim - (0 : Int32))), .unset, .unset, .unset, .unset] [(.ref fl)])) rfl (by rw [hml]; rfl) (Steps.refl _) (argsL := []) (rest := []) (lenOf pd_2 rfl) rfl (by show 2 * 0 + _ ≤ _; exact Nat.le_of_eq rfl) (hb hby d13_14) (fun _ _ => ⟨rfl, e3, (by decide : 0 + 0 ≤ _), (by decide : 0 + 0 ≤ _)⟩)
  dsimp only [Pt.U, Pt.locs, Pt.cells, Pt.slots] at X4 l4 y4 z4 st4 hQ4
  rw [l4, y4, z4] at X4
  obtain ⟨vq4, N4, e4⟩ := hQ4
  rw [vq4] at st4
  have Nn4 := Fr.app N0 N4
  obtain ⟨T5, X5, e5, st5⟩ := getF X4 hx hZ hown (host := "") (Or.inl (hw _ (List.mem_of_getElem? (i := 43) rfl))) Via.refl e4 k2_ (g := (mkF m 23 #[.val (.ref x), .val (.int (8192 : Int32)), .val (.int (lim - (0 : Int32))), .unset, .unset, .unset, .unset] [(.ref x)])) rfl rfl (hb hby d13_23)
  obtain ⟨c6, A6, q6, S6, M6, H6, U6⟩ := id k10_
  obtain ⟨T7, X7, e7, st7⟩ := getF X5 hx hZ hown (host := "") (Or.inl (hw _ (List.mem_of_getElem? (i := 43) rfl))) Via.refl e5 k2_ (g := (mkF m 38 #[.val (.ref x), .val (.int (8192 : Int32)), .val (.int (lim - (0 : Int32))), .unset, .unset, .unset, .unset] [(.ref x), (.long (2 : Int64)), (.long (Int32.toInt64 (8192 : Int32)))])) rfl rfl (hb hby d13_38)
  obtain ⟨_, _, ⟨T8, L8, k8, n8⟩, -, X8, ⟨Lc8, hQ8, l8, y8, z8⟩, st8⟩ := Jvm.LawKit.callS X7 hx (y := (⟨"java/lang/Math", "max", "(JJ)J"⟩ : MethodName)) hown (mvT hZ (hw _ (List.mem_of_getElem? (i := 103) rfl))) (mvT hZ (hw _ (List.mem_of_getElem? (i := 104) rfl))) (mvT hZ (hw _ (List.mem_of_getElem? (i := 105) rfl))) (mvT hZ (hw _ (List.mem_of_getElem? (i := 106) rfl))) (by decide) (backOf (W := 0) (rm_mx l Z a0 hw [] (Int32.toInt64 (8192 : Int32)) ((2 : Int64) * (Int32.toInt64 (0 : Int32)))  (h0) n0 Z0  ) hZ (hw _ (List.mem_of_getElem? (i := 106) rfl)) (hw _ (List.mem_of_getElem? (i := 105) rfl)) (by decide) (by decide)) (g := (mkF m 44 #[.val (.ref x), .val (.int (8192 : Int32)), .val (.int (lim - (0 : Int32))), .unset, .unset, .unset, .unset] [(.long ((2 : Int64) * (Int32.toInt64 (0 : Int32)))), (.long (Int32.toInt64 (8192 : Int32)))])) rfl (by rw [hml]; rfl) (argsL := [(.long (Int32.toInt64 (8192 : Int32))), (.long ((2 : Int64) * (Int32.toInt64 (0 : Int32))))]) (rest := []) (lenOf pd_3 rfl) rfl (by show 2 * 0 + _ ≤ _; exact Nat.le_of_eq rfl) (hb hby d13_44) (fun _ _ => ⟨rfl, e7, (by decide : 0 + 0 ≤ _), (by decide : 0 + 0 ≤ _)⟩)
  dsimp only [Pt.U, Pt.locs, Pt.cells, Pt.slots] at X8 l8 y8 z8 st8 hQ8
  rw [l8, y8, z8] at X8
  replace X8 : Stand _ _ _ _ _ _ _ _ _ _ _ _ 0 0 := X8
  obtain ⟨vq8, N8, e8⟩ := hQ8
  rw [vq8] at st8
  have Nn8 := Fr.app Nn4 N8
  obtain ⟨_, _, ⟨T9, L9, k9, n9⟩, -, X9, ⟨Lc9, hQ9, l9, y9, z9⟩, st9⟩ := Jvm.LawKit.callS X8 hx (y := (⟨"java/lang/Math", "min", "(JJ)J"⟩ : MethodName)) hown (mvT hZ (hw _ (List.mem_of_getElem? (i := 108) rfl))) (mvT hZ (hw _ (List.mem_of_getElem? (i := 109) rfl))) (mvT hZ (hw _ (List.mem_of_getElem? (i := 105) rfl))) (mvT hZ (hw _ (List.mem_of_getElem? (i := 110) rfl))) (by decide) (backOf (W := 0) (rm_mn l Z a0 hw [] (mx_res (Int32.toInt64 (8192 : Int32)) ((2 : Int64) * (Int32.toInt64 (0 : Int32)))) (262144 : Int64)  (h0) n0 Z0  ) hZ (hw _ (List.mem_of_getElem? (i := 110) rfl)) (hw _ (List.mem_of_getElem? (i := 105) rfl)) (by decide) (by decide)) (g := (mkF m 52 #[.val (.ref x), .val (.int (8192 : Int32)), .val (.int (lim - (0 : Int32))), .val (.long (mx_res (Int32.toInt64 (8192 : Int32)) ((2 : Int64) * (Int32.toInt64 (0 : Int32))))), .second, .unset, .unset] [(.long (262144 : Int64)), (.long (mx_res (Int32.toInt64 (8192 : Int32)) ((2 : Int64) * (Int32.toInt64 (0 : Int32)))))])) rfl (by rw [hml]; rfl) (argsL := [(.long (mx_res (Int32.toInt64 (8192 : Int32)) ((2 : Int64) * (Int32.toInt64 (0 : Int32))))), (.long (262144 : Int64))]) (rest := []) (lenOf pd_3 rfl) rfl (by show 2 * 0 + _ ≤ _; exact Nat.le_of_eq rfl) (hb hby d13_52) (fun _ _ => ⟨rfl, e8, (by decide : 0 + 0 ≤ _), (by decide : 0 + 0 ≤ _)⟩)
  dsimp only [Pt.U, Pt.locs, Pt.cells, Pt.slots] at X9 l9 y9 z9 st9 hQ9
  rw [l9, y9, z9] at X9
  replace X9 : Stand _ _ _ _ _ _ _ _ _ _ _ _ 0 0 := X9
  obtain ⟨vq9, N9, e9⟩ := hQ9
  rw [vq9] at st9
  have Nn9 := Fr.app Nn8 N9
  obtain ⟨T10, X10, e10, st10⟩ := getF X9 hx hZ hown (host := "") (Or.inl (hw _ (List.mem_of_getElem? (i := 43) rfl))) Via.refl e9 k2_ (g := (mkF m 56 #[.val (.ref x), .val (.int (8192 : Int32)), .val (.int (lim - (0 : Int32))), .val (.long (mx_res (Int32.toInt64 (8192 : Int32)) ((2 : Int64) * (Int32.toInt64 (0 : Int32))))), .second, .unset, .unset] [(.ref x), (.long (mn_res (mx_res (Int32.toInt64 (8192 : Int32)) ((2 : Int64) * (Int32.toInt64 (0 : Int32)))) (262144 : Int64)))])) rfl rfl (hb hby d13_56)
  obtain ⟨_, _, ⟨T11, L11, k11, n11⟩, -, X11, ⟨Lc11, hQ11, l11, y11, z11⟩, st11⟩ := Jvm.LawKit.callS X10 hx (y := (⟨"java/lang/Math", "min", "(JJ)J"⟩ : MethodName)) hown (mvT hZ (hw _ (List.mem_of_getElem? (i := 108) rfl))) (mvT hZ (hw _ (List.mem_of_getElem? (i := 109) rfl))) (mvT hZ (hw _ (List.mem_of_getElem? (i := 105) rfl))) (mvT hZ (hw _ (List.mem_of_getElem? (i := 110) rfl))) (by decide) (backOf (W := 0) (rm_mn l Z a0 hw [] (mn_res (mx_res (Int32.toInt64 (8192 : Int32)) ((2 : Int64) * (Int32.toInt64 (0 : Int32)))) (262144 : Int64)) ((Int32.toInt64 (0 : Int32)) + (Int32.toInt64 (lim - (0 : Int32))))  (h0) n0 Z0  ) hZ (hw _ (List.mem_of_getElem? (i := 110) rfl)) (hw _ (List.mem_of_getElem? (i := 105) rfl)) (by decide) (by decide)) (g := (mkF m 64 #[.val (.ref x), .val (.int (8192 : Int32)), .val (.int (lim - (0 : Int32))), .val (.long (mx_res (Int32.toInt64 (8192 : Int32)) ((2 : Int64) * (Int32.toInt64 (0 : Int32))))), .second, .unset, .unset] [(.long ((Int32.toInt64 (0 : Int32)) + (Int32.toInt64 (lim - (0 : Int32))))), (.long (mn_res (mx_res (Int32.toInt64 (8192 : Int32)) ((2 : Int64) * (Int32.toInt64 (0 : Int32)))) (262144 : Int64)))])) rfl (by rw [hml]; rfl) (argsL := [(.long (mn_res (mx_res (Int32.toInt64 (8192 : Int32)) ((2 : Int64) * (Int32.toInt64 (0 : Int32)))) (262144 : Int64))), (.long ((Int32.toInt64 (0 : Int32)) + (Int32.toInt64 (lim - (0 : Int32)))))]) (rest := []) (lenOf pd_3 rfl) rfl (by show 2 * 0 + _ ≤ _; exact Nat.le_of_eq rfl) (hb hby d13_64) (fun _ _ => ⟨rfl, e10, (by decide : 0 + 0 ≤ _), (by decide : 0 + 0 ≤ _)⟩)
  dsimp only [Pt.U, Pt.locs, Pt.cells, Pt.slots] at X11 l11 y11 z11 st11 hQ11
  rw [l11, y11, z11] at X11
  replace X11 : Stand _ _ _ _ _ _ _ _ _ _ _ _ 0 0 := X11
  obtain ⟨vq11, N11, e11⟩ := hQ11
  rw [vq11] at st11
  have Nn11 := Fr.app Nn9 N11
  obtain ⟨T12, X12, e12, st12⟩ := getF X11 hx hZ hown (host := "") (Or.inl (hw _ (List.mem_of_getElem? (i := 47) rfl))) Via.refl e11 k4_ (g := (mkF m 71 #[.val (.ref x), .val (.int (8192 : Int32)), .val (.int (lim - (0 : Int32))), .val (.long (mx_res (Int32.toInt64 (8192 : Int32)) ((2 : Int64) * (Int32.toInt64 (0 : Int32))))), .second, .val (.int (mr_cap lim)), .unset] [(.ref x)])) rfl rfl (hb hby d13_71)
  have md13 := own_madeS hZH LM.1
  have fn13 := own_fnAt k12_ LM.2.1 e12
  obtain ⟨v13, u13, t13, T13, L13, X13, hL13, hh13, -, hq13, st13⟩ := Jvm.LamKit.callLamS X12 hx (own := own_BB) (host := own_BB) (index := 111) (count := 2) (xi := own_xi) (y := own_yL) (σ := own_σ) (own_met (rm_lam l Z a0 hw [] (mr_cap lim) (h0) n0 Z0 (own_cap0 hl) (own_cap8 hl)) (n0 := n0) (fun _ _ _ ⟨_, _, _, q, _⟩ => q)) (fun _ _ _ _ h => h) rfl rfl (fun d hd a' U hU => by rw [List.mem_singleton.mp hd]; exact mvT (wtrans hZ hU) (hw _ (List.mem_of_getElem? (i := 115) rfl))) (List.mem_singleton.mpr rfl) hown (mvT hZ (hw _ (List.mem_of_getElem? (i := 111) rfl))) (mvT hZ (hw _ (List.mem_of_getElem? (i := 112) rfl))) (mvT hZ (hw _ (List.mem_of_getElem? (i := 113) rfl))) (mvT hZ (hw _ (List.mem_of_getElem? (i := 115) rfl))) (mvT hZ (hw _ (List.mem_of_getElem? (i := 114) rfl))) (mvT hZ (hw _ (List.mem_of_getElem? (i := 2) rfl))) (by decide +kernel) (by decide +kernel) (by decide) md13 fn13 own_fwd own_f1 own_f4 (g := (mkF m 76 #[.val (.ref x), .val (.int (8192 : Int32)), .val (.int (lim - (0 : Int32))), .val (.long (mx_res (Int32.toInt64 (8192 : Int32)) ((2 : Int64) * (Int32.toInt64 (0 : Int32))))), .second, .val (.int (mr_cap lim)), .unset] [(.int (mr_cap lim)), (.ref la)])) rfl (by rw [hml]; rfl) (argsL := [(.int (mr_cap lim))]) (argsT := [(.int (mr_cap lim))]) (rest := []) (L0 := #[.val (.ref la), .val (.int (mr_cap lim))]) (lenOf pd_4 rfl) (lenOf pd_5 rfl) rfl (hb hby d13_76) (fun _ => rfl) rfl (fun U ck bl target hU hck _ _ k => XS.iloadN hU hx rfl (hb hck own_f0) rfl k) (fun _ _ _ h => own_ret h) (by decide) (by show 2 * 0 + _ + _ + _ ≤ _; exact Nat.le_of_ble_eq_true rfl) (by decide) (by decide) (fun U hU eU => ⟨rfl, wtrans hZ hU, eU.trans e12⟩)
  obtain ⟨v13', Lq13, hv13, ad13, kx13, hva13, -, K13, fr13, pa13, pe13⟩ := hq13
  obtain rfl : v13 = v13' := by cases hv13; rfl
  rw [hva13] at st13
  rw [← hh13] at K13 pa13 pe13
  replace X13 : Stand _ _ _ _ _ _ _ _ _ _ _ _ 1 8192 := X13
  have Nn13 := Fr.app Nn11 hL13
  have ne_x_ad13 : x ≠ ad13 := Nat.ne_of_lt (Nat.lt_of_lt_of_le (k0_.lt) fr13)
  have ne_fl_ad13 : fl ≠ ad13 := Nat.ne_of_lt (Nat.lt_of_lt_of_le (k8_.lt) fr13)
  have ne_tn_ad13 : tn ≠ ad13 := Nat.ne_of_lt (Nat.lt_of_lt_of_le (k10_.lt) fr13)
  have q14 : Exa Z T13.heap x "com/example/riskloom/riskloom/gateway/http/BodyBuffer" := (k0_.keep K13)
  have q15 : Fld Z T13.heap x "com/example/riskloom/riskloom/gateway/http/BodyBuffer" "full" "Ljava/util/List;" (.ref fl) := (k1_.keep K13 (fun q => nomatch q))
  have q16 : Fld Z T13.heap x "com/example/riskloom/riskloom/gateway/http/BodyBuffer" "last" "[B" (.ref tn) := (k2_.keep K13 (fun q => nomatch q))
  have q17 : Fld Z T13.heap x "com/example/riskloom/riskloom/gateway/http/BodyBuffer" "limit" "I" (.int lim) := (k3_.keep K13 (fun q => nomatch q))
  have q18 : Fld Z T13.heap x "com/example/riskloom/riskloom/gateway/http/BodyBuffer" "heap" "Ljava/util/function/IntFunction;" (.ref la) := (k4_.keep K13 (fun q => nomatch q))
  have q19 : Fld Z T13.heap x "com/example/riskloom/riskloom/gateway/http/BodyBuffer" "lastLength" "I" (.int (0 : Int32)) := (k5_.keep K13 (fun q => nomatch q))
  have q20 : Fld Z T13.heap x "com/example/riskloom/riskloom/gateway/http/BodyBuffer" "length" "I" (.int (0 : Int32)) := (k6_.keep K13 (fun q => nomatch q))
  have q21 : Fld Z T13.heap x "com/example/riskloom/riskloom/gateway/http/BodyBuffer" "heldBytes" "J" (.long (0 : Int64)) := (k7_.keep K13 (fun q => nomatch q))
  have q22 : Exa Z T13.heap fl "java/util/ArrayList" := (k8_.keep K13)
  have q23 : Fld Z T13.heap fl "java/util/ArrayList" "size" "I" (.int (0 : Int32)) := (k9_.keep K13 (fun q => nomatch q))
  have q24 : Arv Z T13.heap tn kn .byte (0 : Int32) [] (.int (0 : Int32)) := (k10_.keep K13 (fun q => nomatch q))
  have q25 : Old Z n0 T13.heap := (k12_.keep K13 all0)
  have Z13 : n0 ≤ T13.heap.size := Nat.le_trans Z0 K13.1
  have gn13 : n0 ≤ ad13 := Nat.le_trans Z0 fr13
  have f013 : h0.size ≤ ad13 := Nat.le_trans K0.1 fr13
  have KK13 := K0.trans K13 (fun x hx => nomatch hx)
  obtain ⟨T26, X26, e26, st26⟩ := castY X13 hx hZ hown (hw _ (List.mem_of_getElem? (i := 117) rfl)) rfl (Ins.self pe13) (g := (mkF m 81 #[.val (.ref x), .val (.int (8192 : Int32)), .val (.int (lim - (0 : Int32))), .val (.long (mx_res (Int32.toInt64 (8192 : Int32)) ((2 : Int64) * (Int32.toInt64 (0 : Int32))))), .second, .val (.int (mr_cap lim)), .unset] [(.ref ad13)])) rfl rfl (hb hby d13_81)
  obtain ⟨T27, X27, e27, st27⟩ := getF X26 hx hZ hown (host := "") (Or.inl (hw _ (List.mem_of_getElem? (i := 43) rfl))) Via.refl e26 q16 (g := (mkF m 87 #[.val (.ref x), .val (.int (8192 : Int32)), .val (.int (lim - (0 : Int32))), .val (.long (mx_res (Int32.toInt64 (8192 : Int32)) ((2 : Int64) * (Int32.toInt64 (0 : Int32))))), .second, .val (.int (mr_cap lim)), .val (.ref ad13)] [(.ref x)])) rfl rfl (hb hby d13_87)
  obtain ⟨T28, X28, e28, st28⟩ := getF X27 hx hZ hown (host := "") (Or.inl (hw _ (List.mem_of_getElem? (i := 54) rfl))) Via.refl e27 q19 (g := (mkF m 95 #[.val (.ref x), .val (.int (8192 : Int32)), .val (.int (lim - (0 : Int32))), .val (.long (mx_res (Int32.toInt64 (8192 : Int32)) ((2 : Int64) * (Int32.toInt64 (0 : Int32))))), .second, .val (.int (mr_cap lim)), .val (.ref ad13)] [(.ref x), (.int (0 : Int32)), (.ref ad13), (.int (0 : Int32)), (.ref tn)])) rfl rfl (hb hby d13_95)
  obtain ⟨T29, h29, L29, X29, e29, Nn29, K29, V29, st29⟩ := cpA X28 hx hZ hown (hw _ (List.mem_of_getElem? (i := 119) rfl)) (hw _ (List.mem_of_getElem? (i := 122) rfl)) (hw _ (List.mem_of_getElem? (i := 120) rfl)) (hw _ (List.mem_of_getElem? (i := 121) rfl)) e28 q24 pa13 (Or.inl ⟨rfl, rfl⟩) (us := []) (by decide) (by decide) (by decide) (Nat.zero_le _) (Nat.zero_le _) rfl (Nat.zero_le _) Nn13 gn13 (g := (mkF m 98 #[.val (.ref x), .val (.int (8192 : Int32)), .val (.int (lim - (0 : Int32))), .val (.long (mx_res (Int32.toInt64 (8192 : Int32)) ((2 : Int64) * (Int32.toInt64 (0 : Int32))))), .second, .val (.int (mr_cap lim)), .val (.ref ad13)] [(.int (0 : Int32)), (.int (0 : Int32)), (.ref ad13), (.int (0 : Int32)), (.ref tn)])) rfl (by rw [hml]; rfl) (rest := []) rfl (hb hby d13_98) (by decide) (W := 0) (by show 2 * 0 + _ ≤ _; exact Nat.le_of_eq rfl) (by decide)
  have q30 : Exa Z h29 x "com/example/riskloom/riskloom/gateway/http/BodyBuffer" := (q14.keep K29)
  have q31 : Fld Z h29 x "com/example/riskloom/riskloom/gateway/http/BodyBuffer" "full" "Ljava/util/List;" (.ref fl) := (q15.keep K29 (fun q => ne_x_ad13 (List.mem_singleton.mp q)))
  have q32 : Fld Z h29 x "com/example/riskloom/riskloom/gateway/http/BodyBuffer" "last" "[B" (.ref tn) := (q16.keep K29 (fun q => ne_x_ad13 (List.mem_singleton.mp q)))
  have q33 : Fld Z h29 x "com/example/riskloom/riskloom/gateway/http/BodyBuffer" "limit" "I" (.int lim) := (q17.keep K29 (fun q => ne_x_ad13 (List.mem_singleton.mp q)))
  have q34 : Fld Z h29 x "com/example/riskloom/riskloom/gateway/http/BodyBuffer" "heap" "Ljava/util/function/IntFunction;" (.ref la) := (q18.keep K29 (fun q => ne_x_ad13 (List.mem_singleton.mp q)))
  have q35 : Fld Z h29 x "com/example/riskloom/riskloom/gateway/http/BodyBuffer" "lastLength" "I" (.int (0 : Int32)) := (q19.keep K29 (fun q => ne_x_ad13 (List.mem_singleton.mp q)))
  have q36 : Fld Z h29 x "com/example/riskloom/riskloom/gateway/http/BodyBuffer" "length" "I" (.int (0 : Int32)) := (q20.keep K29 (fun q => ne_x_ad13 (List.mem_singleton.mp q)))
  have q37 : Fld Z h29 x "com/example/riskloom/riskloom/gateway/http/BodyBuffer" "heldBytes" "J" (.long (0 : Int64)) := (q21.keep K29 (fun q => ne_x_ad13 (List.mem_singleton.mp q)))
  have q38 : Exa Z h29 fl "java/util/ArrayList" := (q22.keep K29)
  have q39 : Fld Z h29 fl "java/util/ArrayList" "size" "I" (.int (0 : Int32)) := (q23.keep K29 (fun q => ne_fl_ad13 (List.mem_singleton.mp q)))
  have q40 : Arv Z h29 tn kn .byte (0 : Int32) [] (.int (0 : Int32)) := (q24.keep K29 (fun q => ne_tn_ad13 (List.mem_singleton.mp q)))
  have q41 : Old Z n0 h29 := (q25.keep K29 (allS gn13 all0))
  have q42 : Exa Z h29 ad13 "[B" := (pe13.keep K29)
  have VV29 : Arv Z h29 ad13 kx13 .byte (mr_cap lim) [] (.int (0 : Int32)) := V29
  have Z29 : n0 ≤ h29.size := Nat.le_trans Z13 K29.1
  have KK29 := KK13.trans K29 (fun x hx => Or.inr (by cases List.mem_singleton.mp hx; exact f013))
  obtain ⟨T43, X43, e43, st43⟩ := getF X29 hx hZ hown (host := "") (Or.inl (hw _ (List.mem_of_getElem? (i := 68) rfl))) Via.refl e29 q37 (g := (mkF m 103 #[.val (.ref x), .val (.int (8192 : Int32)), .val (.int (lim - (0 : Int32))), .val (.long (mx_res (Int32.toInt64 (8192 : Int32)) ((2 : Int64) * (Int32.toInt64 (0 : Int32))))), .second, .val (.int (mr_cap lim)), .val (.ref ad13)] [(.ref x), (.ref x)])) rfl rfl (hb hby d13_103)
  obtain ⟨T44, X44, e44, st44⟩ := getF X43 hx hZ hown (host := "") (Or.inl (hw _ (List.mem_of_getElem? (i := 43) rfl))) Via.refl e43 q32 (g := (mkF m 109 #[.val (.ref x), .val (.int (8192 : Int32)), .val (.int (lim - (0 : Int32))), .val (.long (mx_res (Int32.toInt64 (8192 : Int32)) ((2 : Int64) * (Int32.toInt64 (0 : Int32))))), .second, .val (.int (mr_cap lim)), .val (.ref ad13)] [(.ref x), (.int (mr_cap lim)), (.long (0 : Int64)), (.ref x)])) rfl rfl (hb hby d13_109)
  obtain ⟨c45, A45, q45, S45, M45, H45, U45⟩ := id q40
  obtain ⟨T46, h46, X46, e46, W46, st46⟩ := putF X44 hx hZ hown (host := "") (Or.inl (hw _ (List.mem_of_getElem? (i := 68) rfl))) Via.refl e44 q37 q30 (Or.inl (hw _ (List.mem_of_getElem? (i := 69) rfl))) (hw _ (List.mem_of_getElem? (i := 1) rfl)) (ty := .long) (by decide) rfl rfl (g := (mkF m 116 #[.val (.ref x), .val (.int (8192 : Int32)), .val (.int (lim - (0 : Int32))), .val (.long (mx_res (Int32.toInt64 (8192 : Int32)) ((2 : Int64) * (Int32.toInt64 (0 : Int32))))), .second, .val (.int (mr_cap lim)), .val (.ref ad13)] [(.long ((0 : Int64) + (Int32.toInt64 ((mr_cap lim) - (0 : Int32))))), (.ref x)])) rfl rfl (hb hby d13_116)
  have Nn46 := Fr.snoc X46 Nn29 k11_
  have q47 : Exa Z h46 x "com/example/riskloom/riskloom/gateway/http/BodyBuffer" := (q30.wr W46)
  have q48 : Fld Z h46 x "com/example/riskloom/riskloom/gateway/http/BodyBuffer" "full" "Ljava/util/List;" (.ref fl) := (q31.other W46 (Or.inr (slot_ne (a0 := a0) (C := "com/example/riskloom/riskloom/gateway/http/BodyBuffer") (Or.inr (hw _ (List.mem_of_getElem? (i := 40) rfl))) (Or.inl (hw _ (List.mem_of_getElem? (i := 69) rfl))) (by decide) (t := (.object "java/util/List")) (t' := .long) (by decide) (by decide))))
  have q49 : Fld Z h46 x "com/example/riskloom/riskloom/gateway/http/BodyBuffer" "last" "[B" (.ref tn) := (q32.other W46 (Or.inr (slot_ne (a0 := a0) (C := "com/example/riskloom/riskloom/gateway/http/BodyBuffer") (Or.inl (hw _ (List.mem_of_getElem? (i := 44) rfl))) (Or.inl (hw _ (List.mem_of_getElem? (i := 69) rfl))) (by decide) (t := (.array .byte)) (t' := .long) (by decide) (by decide))))
  have q50 : Fld Z h46 x "com/example/riskloom/riskloom/gateway/http/BodyBuffer" "limit" "I" (.int lim) := (q33.other W46 (Or.inr (slot_ne (a0 := a0) (C := "com/example/riskloom/riskloom/gateway/http/BodyBuffer") (Or.inr (hw _ (List.mem_of_getElem? (i := 46) rfl))) (Or.inl (hw _ (List.mem_of_getElem? (i := 69) rfl))) (by decide) (t := .int) (t' := .long) (by decide) (by decide))))
  have q51 : Fld Z h46 x "com/example/riskloom/riskloom/gateway/http/BodyBuffer" "heap" "Ljava/util/function/IntFunction;" (.ref la) := (q34.other W46 (Or.inr (slot_ne (a0 := a0) (C := "com/example/riskloom/riskloom/gateway/http/BodyBuffer") (Or.inr (hw _ (List.mem_of_getElem? (i := 48) rfl))) (Or.inl (hw _ (List.mem_of_getElem? (i := 69) rfl))) (by decide) (t := (.object "java/util/function/IntFunction")) (t' := .long) (by decide) (by decide))))
  have q52 : Fld Z h46 x "com/example/riskloom/riskloom/gateway/http/BodyBuffer" "lastLength" "I" (.int (0 : Int32)) := (q35.other W46 (Or.inr (slot_ne (a0 := a0) (C := "com/example/riskloom/riskloom/gateway/http/BodyBuffer") (Or.inl (hw _ (List.mem_of_getElem? (i := 55) rfl))) (Or.inl (hw _ (List.mem_of_getElem? (i := 69) rfl))) (by decide) (t := .int) (t' := .long) (by decide) (by decide))))
  have q53 : Fld Z h46 x "com/example/riskloom/riskloom/gateway/http/BodyBuffer" "length" "I" (.int (0 : Int32)) := (q36.other W46 (Or.inr (slot_ne (a0 := a0) (C := "com/example/riskloom/riskloom/gateway/http/BodyBuffer") (Or.inl (hw _ (List.mem_of_getElem? (i := 57) rfl))) (Or.inl (hw _ (List.mem_of_getElem? (i := 69) rfl))) (by decide) (t := .int) (t' := .long) (by decide) (by decide))))
  have q54 : Exa Z h46 fl "java/util/ArrayList" := (q38.wr W46)
  have q55 : Fld Z h46 fl "java/util/ArrayList" "size" "I" (.int (0 : Int32)) := (q39.other W46 (Or.inl k13_))
  have q56 : Arv Z h46 tn kn .byte (0 : Int32) [] (.int (0 : Int32)) := (q40.other W46 k14_)
  have q57 : Old Z n0 h46 := (q41.wr W46 k11_)
  have q58 : Exa Z h46 ad13 "[B" := (q42.wr W46)
  have q59 : Arv Z h46 ad13 kx13 .byte (mr_cap lim) [] (.int (0 : Int32)) := (VV29.other W46 ne_x_ad13.symm)
  have q46n : Fld Z h46 x "com/example/riskloom/riskloom/gateway/http/BodyBuffer" "heldBytes" "J" (.long ((0 : Int64) + (Int32.toInt64 ((mr_cap lim) - (0 : Int32))))) := (q37.same W46)
  have K46 := KK29.wr W46 (Or.inl (List.mem_of_getElem? (i := 0) rfl))
  have Z46 : n0 ≤ h46.size := Nat.le_trans Z29 (Keep.of_wr W46).1
  obtain ⟨T60, h60, X60, e60, W60, st60⟩ := putF X46 hx hZ hown (host := "") (Or.inl (hw _ (List.mem_of_getElem? (i := 43) rfl))) Via.refl e46 q49 q47 (Or.inl (hw _ (List.mem_of_getElem? (i := 44) rfl))) (hw _ (List.mem_of_getElem? (i := 1) rfl)) (ty := (.array .byte)) (by decide) rfl rfl (g := (mkF m 122 #[.val (.ref x), .val (.int (8192 : Int32)), .val (.int (lim - (0 : Int32))), .val (.long (mx_res (Int32.toInt64 (8192 : Int32)) ((2 : Int64) * (Int32.toInt64 (0 : Int32))))), .second, .val (.int (mr_cap lim)), .val (.ref ad13)] [(.ref ad13), (.ref x)])) rfl rfl (hb hby d13_122)
  have Nn60 := Fr.snoc X60 Nn46 k11_
  have q61 : Exa Z h60 x "com/example/riskloom/riskloom/gateway/http/BodyBuffer" := (q47.wr W60)
  have q62 : Fld Z h60 x "com/example/riskloom/riskloom/gateway/http/BodyBuffer" "full" "Ljava/util/List;" (.ref fl) := (q48.other W60 (Or.inr (slot_ne (a0 := a0) (C := "com/example/riskloom/riskloom/gateway/http/BodyBuffer") (Or.inr (hw _ (List.mem_of_getElem? (i := 40) rfl))) (Or.inl (hw _ (List.mem_of_getElem? (i := 44) rfl))) (by decide) (t := (.object "java/util/List")) (t' := (.array .byte)) (by decide) (by decide))))
  have q63 : Fld Z h60 x "com/example/riskloom/riskloom/gateway/http/BodyBuffer" "limit" "I" (.int lim) := (q50.other W60 (Or.inr (slot_ne (a0 := a0) (C := "com/example/riskloom/riskloom/gateway/http/BodyBuffer") (Or.inr (hw _ (List.mem_of_getElem? (i := 46) rfl))) (Or.inl (hw _ (List.mem_of_getElem? (i := 44) rfl))) (by decide) (t := .int) (t' := (.array .byte)) (by decide) (by decide))))
  have q64 : Fld Z h60 x "com/example/riskloom/riskloom/gateway/http/BodyBuffer" "heap" "Ljava/util/function/IntFunction;" (.ref la) := (q51.other W60 (Or.inr (slot_ne (a0 := a0) (C := "com/example/riskloom/riskloom/gateway/http/BodyBuffer") (Or.inr (hw _ (List.mem_of_getElem? (i := 48) rfl))) (Or.inl (hw _ (List.mem_of_getElem? (i := 44) rfl))) (by decide) (t := (.object "java/util/function/IntFunction")) (t' := (.array .byte)) (by decide) (by decide))))
  have q65 : Fld Z h60 x "com/example/riskloom/riskloom/gateway/http/BodyBuffer" "lastLength" "I" (.int (0 : Int32)) := (q52.other W60 (Or.inr (slot_ne (a0 := a0) (C := "com/example/riskloom/riskloom/gateway/http/BodyBuffer") (Or.inl (hw _ (List.mem_of_getElem? (i := 55) rfl))) (Or.inl (hw _ (List.mem_of_getElem? (i := 44) rfl))) (by decide) (t := .int) (t' := (.array .byte)) (by decide) (by decide))))
  have q66 : Fld Z h60 x "com/example/riskloom/riskloom/gateway/http/BodyBuffer" "length" "I" (.int (0 : Int32)) := (q53.other W60 (Or.inr (slot_ne (a0 := a0) (C := "com/example/riskloom/riskloom/gateway/http/BodyBuffer") (Or.inl (hw _ (List.mem_of_getElem? (i := 57) rfl))) (Or.inl (hw _ (List.mem_of_getElem? (i := 44) rfl))) (by decide) (t := .int) (t' := (.array .byte)) (by decide) (by decide))))
  have q67 : Exa Z h60 fl "java/util/ArrayList" := (q54.wr W60)
  have q68 : Fld Z h60 fl "java/util/ArrayList" "size" "I" (.int (0 : Int32)) := (q55.other W60 (Or.inl k13_))
  have q69 : Arv Z h60 tn kn .byte (0 : Int32) [] (.int (0 : Int32)) := (q56.other W60 k14_)
  have q70 : Old Z n0 h60 := (q57.wr W60 k11_)
  have q71 : Exa Z h60 ad13 "[B" := (q58.wr W60)
  have q72 : Arv Z h60 ad13 kx13 .byte (mr_cap lim) [] (.int (0 : Int32)) := (q59.other W60 ne_x_ad13.symm)
  have q73 : Fld Z h60 x "com/example/riskloom/riskloom/gateway/http/BodyBuffer" "heldBytes" "J" (.long ((0 : Int64) + (Int32.toInt64 ((mr_cap lim) - (0 : Int32))))) := (q46n.other W60 (Or.inr (slot_ne (a0 := a0) (C := "com/example/riskloom/riskloom/gateway/http/BodyBuffer") (Or.inl (hw _ (List.mem_of_getElem? (i := 69) rfl))) (Or.inl (hw _ (List.mem_of_getElem? (i := 44) rfl))) (by decide) (t := .long) (t' := (.array .byte)) (by decide) (by decide))))
  have q60n : Fld Z h60 x "com/example/riskloom/riskloom/gateway/http/BodyBuffer" "last" "[B" (.ref ad13) := (q49.same W60)
  have K60 := K46.wr W60 (Or.inl (List.mem_of_getElem? (i := 0) rfl))
  have Z60 : n0 ≤ h60.size := Nat.le_trans Z46 (Keep.of_wr W60).1
  obtain ⟨fs, hr, hrun, hended, hW, hsame⟩ := X60.leave (v := none) (fun _ => rfl)
  refine ⟨_, _, pre0 _ ?_, hrun, hended, _, _, rfl, ?_, ⟨_, rfl⟩, hW, hsame.mono (Nat.le_of_ble_eq_true rfl) (Nat.le_of_ble_eq_true rfl)⟩
  · show Steps p.tables e below (s₁.setTop (mkF m 0 #[.val (.ref x), .val (.int (8192 : Int32)), .unset, .unset, .unset, .unset, .unset] [])) _
    refine XS.aloadN X0.here hx rfl (hb hby d13_0) rfl rfl ?_
    show Steps p.tables e below (s₁.setTop (mkF m 1 #[.val (.ref x), .val (.int (8192 : Int32)), .unset, .unset, .unset, .unset, .unset] [(.ref x)])) _
    refine st1 _ ?_
    show Steps p.tables e below (T1.setTop (mkF m 4 #[.val (.ref x), .val (.int (8192 : Int32)), .unset, .unset, .unset, .unset, .unset] [(.int lim)])) _
    refine XS.aloadN X1.here hx rfl (hb hby d13_4) rfl rfl ?_
    show Steps p.tables e below (T1.setTop (mkF m 5 #[.val (.ref x), .val (.int (8192 : Int32)), .unset, .unset, .unset, .unset, .unset] [(.ref x), (.int lim)])) _
    refine st2 _ ?_
    show Steps p.tables e below (T2.setTop (mkF m 8 #[.val (.ref x), .val (.int (8192 : Int32)), .unset, .unset, .unset, .unset, .unset] [(.int (0 : Int32)), (.int lim)])) _
    refine XS.isub X2.here hx rfl (hb hby d13_8) rfl ?_
    show Steps p.tables e below (T2.setTop (mkF m 9 #[.val (.ref x), .val (.int (8192 : Int32)), .unset, .unset, .unset, .unset, .unset] [(.int (lim - (0 : Int32)))])) _
    refine XS.istoreN X2.here hx rfl (hb hby d13_9) rfl (l' := #[.val (.ref x), .val (.int (8192 : Int32)), .val (.int (lim - (0 : Int32))), .unset, .unset, .unset, .unset]) rfl ?_
    show Steps p.tables e below (T2.setTop (mkF m 10 #[.val (.ref x), .val (.int (8192 : Int32)), .val (.int (lim - (0 : Int32))), .unset, .unset, .unset, .unset] [])) _
    refine XS.aloadN X2.here hx rfl (hb hby d13_10) rfl rfl ?_
    show Steps p.tables e below (T2.setTop (mkF m 11 #[.val (.ref x), .val (.int (8192 : Int32)), .val (.int (lim - (0 : Int32))), .unset, .unset, .unset, .unset] [(.ref x)])) _
    refine st3 _ ?_
    show Steps p.tables e below (T3.setTop (mkF m 14 #[.val (.ref x), .val (.int (8192 : Int32)), .val (.int (lim - (0 : Int32))), .unset, .unset, .unset, .unset] [(.ref fl)])) _
    refine st4.trans ?_
    show Steps p.tables e below (T4.setTop (mkF m 19 #[.val (.ref x), .val (.int (8192 : Int32)), .val (.int (lim - (0 : Int32))), .unset, .unset, .unset, .unset] [(.int (1 : Int32))])) _
    refine XS.ifNo X4.here hx rfl (hb hby d13_19) rfl rfl ?_
    show Steps p.tables e below (T4.setTop (mkF m 22 #[.val (.ref x), .val (.int (8192 : Int32)), .val (.int (lim - (0 : Int32))), .unset, .unset, .unset, .unset] [])) _
    refine XS.aloadN X4.here hx rfl (hb hby d13_22) rfl rfl ?_
    show Steps p.tables e below (T4.setTop (mkF m 23 #[.val (.ref x), .val (.int (8192 : Int32)), .val (.int (lim - (0 : Int32))), .unset, .unset, .unset, .unset] [(.ref x)])) _
    refine st5 _ ?_
    show Steps p.tables e below (T5.setTop (mkF m 26 #[.val (.ref x), .val (.int (8192 : Int32)), .val (.int (lim - (0 : Int32))), .unset, .unset, .unset, .unset] [(.ref tn)])) _
    refine X5.arraylength hx (by rw [e5]; exact A6.1) (State.isArrayOf_alike hZ.alike A6.2.1) (g := (mkF m 26 #[.val (.ref x), .val (.int (8192 : Int32)), .val (.int (lim - (0 : Int32))), .unset, .unset, .unset, .unset] [(.ref tn)])) rfl rfl (hb hby d13_26) _ ?_
    rw [len_of S6 M6]
    show Steps p.tables e below (T5.setTop (mkF m 27 #[.val (.ref x), .val (.int (8192 : Int32)), .val (.int (lim - (0 : Int32))), .unset, .unset, .unset, .unset] [(.int (0 : Int32))])) _
    refine X5.ldcI hx hown (mvT hZ (hw _ (List.mem_of_getElem? (i := 101) rfl))) (g := (mkF m 27 #[.val (.ref x), .val (.int (8192 : Int32)), .val (.int (lim - (0 : Int32))), .unset, .unset, .unset, .unset] [(.int (0 : Int32))])) rfl (hb hby d13_27) ?_
    show Steps p.tables e below (T5.setTop (mkF m 29 #[.val (.ref x), .val (.int (8192 : Int32)), .val (.int (lim - (0 : Int32))), .unset, .unset, .unset, .unset] [(.int (262144 : Int32)), (.int (0 : Int32))])) _
    refine XS.icmpNo X5.here hx rfl (hb hby d13_29) rfl rfl ?_
    show Steps p.tables e below (T5.setTop (mkF m 32 #[.val (.ref x), .val (.int (8192 : Int32)), .val (.int (lim - (0 : Int32))), .unset, .unset, .unset, .unset] [])) _
    refine XS.iloadN X5.here hx rfl (hb hby d13_32) rfl ?_
    show Steps p.tables e below (T5.setTop (mkF m 33 #[.val (.ref x), .val (.int (8192 : Int32)), .val (.int (lim - (0 : Int32))), .unset, .unset, .unset, .unset] [(.int (8192 : Int32))])) _
    refine XT.i2l X5.here hx rfl (hb hby d13_33) rfl ?_
    show Steps p.tables e below (T5.setTop (mkF m 34 #[.val (.ref x), .val (.int (8192 : Int32)), .val (.int (lim - (0 : Int32))), .unset, .unset, .unset, .unset] [(.long (Int32.toInt64 (8192 : Int32)))])) _
    refine X5.ldc2J hx hown (mvT hZ (hw _ (List.mem_of_getElem? (i := 102) rfl))) (g := (mkF m 34 #[.val (.ref x), .val (.int (8192 : Int32)), .val (.int (lim - (0 : Int32))), .unset, .unset, .unset, .unset] [(.long (Int32.toInt64 (8192 : Int32)))])) rfl (hb hby d13_34) ?_
    show Steps p.tables e below (T5.setTop (mkF m 37 #[.val (.ref x), .val (.int (8192 : Int32)), .val (.int (lim - (0 : Int32))), .unset, .unset, .unset, .unset] [(.long (2 : Int64)), (.long (Int32.toInt64 (8192 : Int32)))])) _
    refine XS.aloadN X5.here hx rfl (hb hby d13_37) rfl rfl ?_
    show Steps p.tables e below (T5.setTop (mkF m 38 #[.val (.ref x), .val (.int (8192 : Int32)), .val (.int (lim - (0 : Int32))), .unset, .unset, .unset, .unset] [(.ref x), (.long (2 : Int64)), (.long (Int32.toInt64 (8192 : Int32)))])) _
    refine st7 _ ?_
    show Steps p.tables e below (T7.setTop (mkF m 41 #[.val (.ref x), .val (.int (8192 : Int32)), .val (.int (lim - (0 : Int32))), .unset, .unset, .unset, .unset] [(.ref tn), (.long (2 : Int64)), (.long (Int32.toInt64 (8192 : Int32)))])) _
    refine X7.arraylength hx (by rw [e7]; exact A6.1) (State.isArrayOf_alike hZ.alike A6.2.1) (g := (mkF m 41 #[.val (.ref x), .val (.int (8192 : Int32)), .val (.int (lim - (0 : Int32))), .unset, .unset, .unset, .unset] [(.ref tn), (.long (2 : Int64)), (.long (Int32.toInt64 (8192 : Int32)))])) rfl rfl (hb hby d13_41) _ ?_
    rw [len_of S6 M6]
    show Steps p.tables e below (T7.setTop (mkF m 42 #[.val (.ref x), .val (.int (8192 : Int32)), .val (.int (lim - (0 : Int32))), .unset, .unset, .unset, .unset] [(.int (0 : Int32)), (.long (2 : Int64)), (.long (Int32.toInt64 (8192 : Int32)))])) _
    refine XT.i2l X7.here hx rfl (hb hby d13_42) rfl ?_
    show Steps p.tables e below (T7.setTop (mkF m 43 #[.val (.ref x), .val (.int (8192 : Int32)), .val (.int (lim - (0 : Int32))), .unset, .unset, .unset, .unset] [(.long (Int32.toInt64 (0 : Int32))), (.long (2 : Int64)), (.long (Int32.toInt64 (8192 : Int32)))])) _
    refine XT.lmul X7.here hx rfl (hb hby d13_43) rfl ?_
    show Steps p.tables e below (T7.setTop (mkF m 44 #[.val (.ref x), .val (.int (8192 : Int32)), .val (.int (lim - (0 : Int32))), .unset, .unset, .unset, .unset] [(.long ((2 : Int64) * (Int32.toInt64 (0 : Int32)))), (.long (Int32.toInt64 (8192 : Int32)))])) _
    refine st8 _ ?_
    show Steps p.tables e below (T8.setTop (mkF m 47 #[.val (.ref x), .val (.int (8192 : Int32)), .val (.int (lim - (0 : Int32))), .unset, .unset, .unset, .unset] [(.long (mx_res (Int32.toInt64 (8192 : Int32)) ((2 : Int64) * (Int32.toInt64 (0 : Int32)))))])) _
    refine XT.lstoreN X8.here hx rfl (hb hby d13_47) rfl (l' := #[.val (.ref x), .val (.int (8192 : Int32)), .val (.int (lim - (0 : Int32))), .val (.long (mx_res (Int32.toInt64 (8192 : Int32)) ((2 : Int64) * (Int32.toInt64 (0 : Int32))))), .second, .unset, .unset]) rfl ?_
    show Steps p.tables e below (T8.setTop (mkF m 48 #[.val (.ref x), .val (.int (8192 : Int32)), .val (.int (lim - (0 : Int32))), .val (.long (mx_res (Int32.toInt64 (8192 : Int32)) ((2 : Int64) * (Int32.toInt64 (0 : Int32))))), .second, .unset, .unset] [])) _
    refine XT.lloadN X8.here hx rfl (hb hby d13_48) rfl ?_
    show Steps p.tables e below (T8.setTop (mkF m 49 #[.val (.ref x), .val (.int (8192 : Int32)), .val (.int (lim - (0 : Int32))), .val (.long (mx_res (Int32.toInt64 (8192 : Int32)) ((2 : Int64) * (Int32.toInt64 (0 : Int32))))), .second, .unset, .unset] [(.long (mx_res (Int32.toInt64 (8192 : Int32)) ((2 : Int64) * (Int32.toInt64 (0 : Int32)))))])) _
    refine X8.ldc2J hx hown (mvT hZ (hw _ (List.mem_of_getElem? (i := 107) rfl))) (g := (mkF m 49 #[.val (.ref x), .val (.int (8192 : Int32)), .val (.int (lim - (0 : Int32))), .val (.long (mx_res (Int32.toInt64 (8192 : Int32)) ((2 : Int64) * (Int32.toInt64 (0 : Int32))))), .second, .unset, .unset] [(.long (mx_res (Int32.toInt64 (8192 : Int32)) ((2 : Int64) * (Int32.toInt64 (0 : Int32)))))])) rfl (hb hby d13_49) ?_
    show Steps p.tables e below (T8.setTop (mkF m 52 #[.val (.ref x), .val (.int (8192 : Int32)), .val (.int (lim - (0 : Int32))), .val (.long (mx_res (Int32.toInt64 (8192 : Int32)) ((2 : Int64) * (Int32.toInt64 (0 : Int32))))), .second, .unset, .unset] [(.long (262144 : Int64)), (.long (mx_res (Int32.toInt64 (8192 : Int32)) ((2 : Int64) * (Int32.toInt64 (0 : Int32)))))])) _
    refine st9 _ ?_
    show Steps p.tables e below (T9.setTop (mkF m 55 #[.val (.ref x), .val (.int (8192 : Int32)), .val (.int (lim - (0 : Int32))), .val (.long (mx_res (Int32.toInt64 (8192 : Int32)) ((2 : Int64) * (Int32.toInt64 (0 : Int32))))), .second, .unset, .unset] [(.long (mn_res (mx_res (Int32.toInt64 (8192 : Int32)) ((2 : Int64) * (Int32.toInt64 (0 : Int32)))) (262144 : Int64)))])) _
    refine XS.aloadN X9.here hx rfl (hb hby d13_55) rfl rfl ?_
    show Steps p.tables e below (T9.setTop (mkF m 56 #[.val (.ref x), .val (.int (8192 : Int32)), .val (.int (lim - (0 : Int32))), .val (.long (mx_res (Int32.toInt64 (8192 : Int32)) ((2 : Int64) * (Int32.toInt64 (0 : Int32))))), .second, .unset, .unset] [(.ref x), (.long (mn_res (mx_res (Int32.toInt64 (8192 : Int32)) ((2 : Int64) * (Int32.toInt64 (0 : Int32)))) (262144 : Int64)))])) _
    refine st10 _ ?_
    show Steps p.tables e below (T10.setTop (mkF m 59 #[.val (.ref x), .val (.int (8192 : Int32)), .val (.int (lim - (0 : Int32))), .val (.long (mx_res (Int32.toInt64 (8192 : Int32)) ((2 : Int64) * (Int32.toInt64 (0 : Int32))))), .second, .unset, .unset] [(.ref tn), (.long (mn_res (mx_res (Int32.toInt64 (8192 : Int32)) ((2 : Int64) * (Int32.toInt64 (0 : Int32)))) (262144 : Int64)))])) _
    refine X10.arraylength hx (by rw [e10]; exact A6.1) (State.isArrayOf_alike hZ.alike A6.2.1) (g := (mkF m 59 #[.val (.ref x), .val (.int (8192 : Int32)), .val (.int (lim - (0 : Int32))), .val (.long (mx_res (Int32.toInt64 (8192 : Int32)) ((2 : Int64) * (Int32.toInt64 (0 : Int32))))), .second, .unset, .unset] [(.ref tn), (.long (mn_res (mx_res (Int32.toInt64 (8192 : Int32)) ((2 : Int64) * (Int32.toInt64 (0 : Int32)))) (262144 : Int64)))])) rfl rfl (hb hby d13_59) _ ?_
    rw [len_of S6 M6]
    show Steps p.tables e below (T10.setTop (mkF m 60 #[.val (.ref x), .val (.int (8192 : Int32)), .val (.int (lim - (0 : Int32))), .val (.long (mx_res (Int32.toInt64 (8192 : Int32)) ((2 : Int64) * (Int32.toInt64 (0 : Int32))))), .second, .unset, .unset] [(.int (0 : Int32)), (.long (mn_res (mx_res (Int32.toInt64 (8192 : Int32)) ((2 : Int64) * (Int32.toInt64 (0 : Int32)))) (262144 : Int64)))])) _
    refine XT.i2l X10.here hx rfl (hb hby d13_60) rfl ?_
    show Steps p.tables e below (T10.setTop (mkF m 61 #[.val (.ref x), .val (.int (8192 : Int32)), .val (.int (lim - (0 : Int32))), .val (.long (mx_res (Int32.toInt64 (8192 : Int32)) ((2 : Int64) * (Int32.toInt64 (0 : Int32))))), .second, .unset, .unset] [(.long (Int32.toInt64 (0 : Int32))), (.long (mn_res (mx_res (Int32.toInt64 (8192 : Int32)) ((2 : Int64) * (Int32.toInt64 (0 : Int32)))) (262144 : Int64)))])) _
    refine XS.iloadN X10.here hx rfl (hb hby d13_61) rfl ?_
    show Steps p.tables e below (T10.setTop (mkF m 62 #[.val (.ref x), .val (.int (8192 : Int32)), .val (.int (lim - (0 : Int32))), .val (.long (mx_res (Int32.toInt64 (8192 : Int32)) ((2 : Int64) * (Int32.toInt64 (0 : Int32))))), .second, .unset, .unset] [(.int (lim - (0 : Int32))), (.long (Int32.toInt64 (0 : Int32))), (.long (mn_res (mx_res (Int32.toInt64 (8192 : Int32)) ((2 : Int64) * (Int32.toInt64 (0 : Int32)))) (262144 : Int64)))])) _
    refine XT.i2l X10.here hx rfl (hb hby d13_62) rfl ?_
    show Steps p.tables e below (T10.setTop (mkF m 63 #[.val (.ref x), .val (.int (8192 : Int32)), .val (.int (lim - (0 : Int32))), .val (.long (mx_res (Int32.toInt64 (8192 : Int32)) ((2 : Int64) * (Int32.toInt64 (0 : Int32))))), .second, .unset, .unset] [(.long (Int32.toInt64 (lim - (0 : Int32)))), (.long (Int32.toInt64 (0 : Int32))), (.long (mn_res (mx_res (Int32.toInt64 (8192 : Int32)) ((2 : Int64) * (Int32.toInt64 (0 : Int32)))) (262144 : Int64)))])) _
    refine XT.ladd X10.here hx rfl (hb hby d13_63) rfl ?_
    show Steps p.tables e below (T10.setTop (mkF m 64 #[.val (.ref x), .val (.int (8192 : Int32)), .val (.int (lim - (0 : Int32))), .val (.long (mx_res (Int32.toInt64 (8192 : Int32)) ((2 : Int64) * (Int32.toInt64 (0 : Int32))))), .second, .unset, .unset] [(.long ((Int32.toInt64 (0 : Int32)) + (Int32.toInt64 (lim - (0 : Int32))))), (.long (mn_res (mx_res (Int32.toInt64 (8192 : Int32)) ((2 : Int64) * (Int32.toInt64 (0 : Int32)))) (262144 : Int64)))])) _
    refine st11 _ ?_
    show Steps p.tables e below (T11.setTop (mkF m 67 #[.val (.ref x), .val (.int (8192 : Int32)), .val (.int (lim - (0 : Int32))), .val (.long (mx_res (Int32.toInt64 (8192 : Int32)) ((2 : Int64) * (Int32.toInt64 (0 : Int32))))), .second, .unset, .unset] [(.long (mn_res (mn_res (mx_res (Int32.toInt64 (8192 : Int32)) ((2 : Int64) * (Int32.toInt64 (0 : Int32)))) (262144 : Int64)) ((Int32.toInt64 (0 : Int32)) + (Int32.toInt64 (lim - (0 : Int32))))))])) _
    refine XT.l2i X11.here hx rfl (hb hby d13_67) rfl ?_
    show Steps p.tables e below (T11.setTop (mkF m 68 #[.val (.ref x), .val (.int (8192 : Int32)), .val (.int (lim - (0 : Int32))), .val (.long (mx_res (Int32.toInt64 (8192 : Int32)) ((2 : Int64) * (Int32.toInt64 (0 : Int32))))), .second, .unset, .unset] [(.int (Int64.toInt32 (mn_res (mn_res (mx_res (Int32.toInt64 (8192 : Int32)) ((2 : Int64) * (Int32.toInt64 (0 : Int32)))) (262144 : Int64)) ((Int32.toInt64 (0 : Int32)) + (Int32.toInt64 (lim - (0 : Int32)))))))])) _
    refine XS.istore X11.here hx rfl (hb hby d13_68) rfl (l' := #[.val (.ref x), .val (.int (8192 : Int32)), .val (.int (lim - (0 : Int32))), .val (.long (mx_res (Int32.toInt64 (8192 : Int32)) ((2 : Int64) * (Int32.toInt64 (0 : Int32))))), .second, .val (.int (mr_cap lim)), .unset]) rfl ?_
    show Steps p.tables e below (T11.setTop (mkF m 70 #[.val (.ref x), .val (.int (8192 : Int32)), .val (.int (lim - (0 : Int32))), .val (.long (mx_res (Int32.toInt64 (8192 : Int32)) ((2 : Int64) * (Int32.toInt64 (0 : Int32))))), .second, .val (.int (mr_cap lim)), .unset] [])) _
    refine XS.aloadN X11.here hx rfl (hb hby d13_70) rfl rfl ?_
    show Steps p.tables e below (T11.setTop (mkF m 71 #[.val (.ref x), .val (.int (8192 : Int32)), .val (.int (lim - (0 : Int32))), .val (.long (mx_res (Int32.toInt64 (8192 : Int32)) ((2 : Int64) * (Int32.toInt64 (0 : Int32))))), .second, .val (.int (mr_cap lim)), .unset] [(.ref x)])) _
    refine st12 _ ?_
    show Steps p.tables e below (T12.setTop (mkF m 74 #[.val (.ref x), .val (.int (8192 : Int32)), .val (.int (lim - (0 : Int32))), .val (.long (mx_res (Int32.toInt64 (8192 : Int32)) ((2 : Int64) * (Int32.toInt64 (0 : Int32))))), .second, .val (.int (mr_cap lim)), .unset] [(.ref la)])) _
    refine XS.iload X12.here hx rfl (hb hby d13_74) rfl ?_
    show Steps p.tables e below (T12.setTop (mkF m 76 #[.val (.ref x), .val (.int (8192 : Int32)), .val (.int (lim - (0 : Int32))), .val (.long (mx_res (Int32.toInt64 (8192 : Int32)) ((2 : Int64) * (Int32.toInt64 (0 : Int32))))), .second, .val (.int (mr_cap lim)), .unset] [(.int (mr_cap lim)), (.ref la)])) _
    refine st13 _ ?_
    show Steps p.tables e below (T13.setTop (mkF m 81 #[.val (.ref x), .val (.int (8192 : Int32)), .val (.int (lim - (0 : Int32))), .val (.long (mx_res (Int32.toInt64 (8192 : Int32)) ((2 : Int64) * (Int32.toInt64 (0 : Int32))))), .second, .val (.int (mr_cap lim)), .unset] [(.ref ad13)])) _
    refine st26 _ ?_
    show Steps p.tables e below (T26.setTop (mkF m 84 #[.val (.ref x), .val (.int (8192 : Int32)), .val (.int (lim - (0 : Int32))), .val (.long (mx_res (Int32.toInt64 (8192 : Int32)) ((2 : Int64) * (Int32.toInt64 (0 : Int32))))), .second, .val (.int (mr_cap lim)), .unset] [(.ref ad13)])) _
    refine XS.astore X26.here hx rfl (hb hby d13_84) rfl rfl (l' := #[.val (.ref x), .val (.int (8192 : Int32)), .val (.int (lim - (0 : Int32))), .val (.long (mx_res (Int32.toInt64 (8192 : Int32)) ((2 : Int64) * (Int32.toInt64 (0 : Int32))))), .second, .val (.int (mr_cap lim)), .val (.ref ad13)]) rfl ?_
    show Steps p.tables e below (T26.setTop (mkF m 86 #[.val (.ref x), .val (.int (8192 : Int32)), .val (.int (lim - (0 : Int32))), .val (.long (mx_res (Int32.toInt64 (8192 : Int32)) ((2 : Int64) * (Int32.toInt64 (0 : Int32))))), .second, .val (.int (mr_cap lim)), .val (.ref ad13)] [])) _
    refine XS.aloadN X26.here hx rfl (hb hby d13_86) rfl rfl ?_
    show Steps p.tables e below (T26.setTop (mkF m 87 #[.val (.ref x), .val (.int (8192 : Int32)), .val (.int (lim - (0 : Int32))), .val (.long (mx_res (Int32.toInt64 (8192 : Int32)) ((2 : Int64) * (Int32.toInt64 (0 : Int32))))), .second, .val (.int (mr_cap lim)), .val (.ref ad13)] [(.ref x)])) _
    refine st27 _ ?_
    show Steps p.tables e below (T27.setTop (mkF m 90 #[.val (.ref x), .val (.int (8192 : Int32)), .val (.int (lim - (0 : Int32))), .val (.long (mx_res (Int32.toInt64 (8192 : Int32)) ((2 : Int64) * (Int32.toInt64 (0 : Int32))))), .second, .val (.int (mr_cap lim)), .val (.ref ad13)] [(.ref tn)])) _
    refine XS.iconst X27.here hx rfl (hb hby d13_90) ?_
    show Steps p.tables e below (T27.setTop (mkF m 91 #[.val (.ref x), .val (.int (8192 : Int32)), .val (.int (lim - (0 : Int32))), .val (.long (mx_res (Int32.toInt64 (8192 : Int32)) ((2 : Int64) * (Int32.toInt64 (0 : Int32))))), .second, .val (.int (mr_cap lim)), .val (.ref ad13)] [(.int (0 : Int32)), (.ref tn)])) _
    refine XS.aload X27.here hx rfl (hb hby d13_91) rfl rfl ?_
    show Steps p.tables e below (T27.setTop (mkF m 93 #[.val (.ref x), .val (.int (8192 : Int32)), .val (.int (lim - (0 : Int32))), .val (.long (mx_res (Int32.toInt64 (8192 : Int32)) ((2 : Int64) * (Int32.toInt64 (0 : Int32))))), .second, .val (.int (mr_cap lim)), .val (.ref ad13)] [(.ref ad13), (.int (0 : Int32)), (.ref tn)])) _
    refine XS.iconst X27.here hx rfl (hb hby d13_93) ?_
    show Steps p.tables e below (T27.setTop (mkF m 94 #[.val (.ref x), .val (.int (8192 : Int32)), .val (.int (lim - (0 : Int32))), .val (.long (mx_res (Int32.toInt64 (8192 : Int32)) ((2 : Int64) * (Int32.toInt64 (0 : Int32))))), .second, .val (.int (mr_cap lim)), .val (.ref ad13)] [(.int (0 : Int32)), (.ref ad13), (.int (0 : Int32)), (.ref tn)])) _
    refine XS.aloadN X27.here hx rfl (hb hby d13_94) rfl rfl ?_
    show Steps p.tables e below (T27.setTop (mkF m 95 #[.val (.ref x), .val (.int (8192 : Int32)), .val (.int (lim - (0 : Int32))), .val (.long (mx_res (Int32.toInt64 (8192 : Int32)) ((2 : Int64) * (Int32.toInt64 (0 : Int32))))), .second, .val (.int (mr_cap lim)), .val (.ref ad13)] [(.ref x), (.int (0 : Int32)), (.ref ad13), (.int (0 : Int32)), (.ref tn)])) _
    refine st28 _ ?_
    show Steps p.tables e below (T28.setTop (mkF m 98 #[.val (.ref x), .val (.int (8192 : Int32)), .val (.int (lim - (0 : Int32))), .val (.long (mx_res (Int32.toInt64 (8192 : Int32)) ((2 : Int64) * (Int32.toInt64 (0 : Int32))))), .second, .val (.int (mr_cap lim)), .val (.ref ad13)] [(.int (0 : Int32)), (.int (0 : Int32)), (.ref ad13), (.int (0 : Int32)), (.ref tn)])) _
    refine st29 _ ?_
    show Steps p.tables e below (T29.setTop (mkF m 101 #[.val (.ref x), .val (.int (8192 : Int32)), .val (.int (lim - (0 : Int32))), .val (.long (mx_res (Int32.toInt64 (8192 : Int32)) ((2 : Int64) * (Int32.toInt64 (0 : Int32))))), .second, .val (.int (mr_cap lim)), .val (.ref ad13)] [])) _
    refine XS.aloadN X29.here hx rfl (hb hby d13_101) rfl rfl ?_
    show Steps p.tables e below (T29.setTop (mkF m 102 #[.val (.ref x), .val (.int (8192 : Int32)), .val (.int (lim - (0 : Int32))), .val (.long (mx_res (Int32.toInt64 (8192 : Int32)) ((2 : Int64) * (Int32.toInt64 (0 : Int32))))), .second, .val (.int (mr_cap lim)), .val (.ref ad13)] [(.ref x)])) _
    refine XS.dup X29.here hx rfl (hb hby d13_102) rfl rfl ?_
    show Steps p.tables e below (T29.setTop (mkF m 103 #[.val (.ref x), .val (.int (8192 : Int32)), .val (.int (lim - (0 : Int32))), .val (.long (mx_res (Int32.toInt64 (8192 : Int32)) ((2 : Int64) * (Int32.toInt64 (0 : Int32))))), .second, .val (.int (mr_cap lim)), .val (.ref ad13)] [(.ref x), (.ref x)])) _
    refine st43 _ ?_
    show Steps p.tables e below (T43.setTop (mkF m 106 #[.val (.ref x), .val (.int (8192 : Int32)), .val (.int (lim - (0 : Int32))), .val (.long (mx_res (Int32.toInt64 (8192 : Int32)) ((2 : Int64) * (Int32.toInt64 (0 : Int32))))), .second, .val (.int (mr_cap lim)), .val (.ref ad13)] [(.long (0 : Int64)), (.ref x)])) _
    refine XS.iload X43.here hx rfl (hb hby d13_106) rfl ?_
    show Steps p.tables e below (T43.setTop (mkF m 108 #[.val (.ref x), .val (.int (8192 : Int32)), .val (.int (lim - (0 : Int32))), .val (.long (mx_res (Int32.toInt64 (8192 : Int32)) ((2 : Int64) * (Int32.toInt64 (0 : Int32))))), .second, .val (.int (mr_cap lim)), .val (.ref ad13)] [(.int (mr_cap lim)), (.long (0 : Int64)), (.ref x)])) _
    refine XS.aloadN X43.here hx rfl (hb hby d13_108) rfl rfl ?_
    show Steps p.tables e below (T43.setTop (mkF m 109 #[.val (.ref x), .val (.int (8192 : Int32)), .val (.int (lim - (0 : Int32))), .val (.long (mx_res (Int32.toInt64 (8192 : Int32)) ((2 : Int64) * (Int32.toInt64 (0 : Int32))))), .second, .val (.int (mr_cap lim)), .val (.ref ad13)] [(.ref x), (.int (mr_cap lim)), (.long (0 : Int64)), (.ref x)])) _
    refine st44 _ ?_
    show Steps p.tables e below (T44.setTop (mkF m 112 #[.val (.ref x), .val (.int (8192 : Int32)), .val (.int (lim - (0 : Int32))), .val (.long (mx_res (Int32.toInt64 (8192 : Int32)) ((2 : Int64) * (Int32.toInt64 (0 : Int32))))), .second, .val (.int (mr_cap lim)), .val (.ref ad13)] [(.ref tn), (.int (mr_cap lim)), (.long (0 : Int64)), (.ref x)])) _
    refine X44.arraylength hx (by rw [e44]; exact A45.1) (State.isArrayOf_alike hZ.alike A45.2.1) (g := (mkF m 112 #[.val (.ref x), .val (.int (8192 : Int32)), .val (.int (lim - (0 : Int32))), .val (.long (mx_res (Int32.toInt64 (8192 : Int32)) ((2 : Int64) * (Int32.toInt64 (0 : Int32))))), .second, .val (.int (mr_cap lim)), .val (.ref ad13)] [(.ref tn), (.int (mr_cap lim)), (.long (0 : Int64)), (.ref x)])) rfl rfl (hb hby d13_112) _ ?_
    rw [len_of S45 M45]
    show Steps p.tables e below (T44.setTop (mkF m 113 #[.val (.ref x), .val (.int (8192 : Int32)), .val (.int (lim - (0 : Int32))), .val (.long (mx_res (Int32.toInt64 (8192 : Int32)) ((2 : Int64) * (Int32.toInt64 (0 : Int32))))), .second, .val (.int (mr_cap lim)), .val (.ref ad13)] [(.int (0 : Int32)), (.int (mr_cap lim)), (.long (0 : Int64)), (.ref x)])) _
    refine XS.isub X44.here hx rfl (hb hby d13_113) rfl ?_
    show Steps p.tables e below (T44.setTop (mkF m 114 #[.val (.ref x), .val (.int (8192 : Int32)), .val (.int (lim - (0 : Int32))), .val (.long (mx_res (Int32.toInt64 (8192 : Int32)) ((2 : Int64) * (Int32.toInt64 (0 : Int32))))), .second, .val (.int (mr_cap lim)), .val (.ref ad13)] [(.int ((mr_cap lim) - (0 : Int32))), (.long (0 : Int64)), (.ref x)])) _
    refine XT.i2l X44.here hx rfl (hb hby d13_114) rfl ?_
    show Steps p.tables e below (T44.setTop (mkF m 115 #[.val (.ref x), .val (.int (8192 : Int32)), .val (.int (lim - (0 : Int32))), .val (.long (mx_res (Int32.toInt64 (8192 : Int32)) ((2 : Int64) * (Int32.toInt64 (0 : Int32))))), .second, .val (.int (mr_cap lim)), .val (.ref ad13)] [(.long (Int32.toInt64 ((mr_cap lim) - (0 : Int32)))), (.long (0 : Int64)), (.ref x)])) _
    refine XT.ladd X44.here hx rfl (hb hby d13_115) rfl ?_
    show Steps p.tables e below (T44.setTop (mkF m 116 #[.val (.ref x), .val (.int (8192 : Int32)), .val (.int (lim - (0 : Int32))), .val (.long (mx_res (Int32.toInt64 (8192 : Int32)) ((2 : Int64) * (Int32.toInt64 (0 : Int32))))), .second, .val (.int (mr_cap lim)), .val (.ref ad13)] [(.long ((0 : Int64) + (Int32.toInt64 ((mr_cap lim) - (0 : Int32))))), (.ref x)])) _
    refine st46 _ ?_
    show Steps p.tables e below (T46.setTop (mkF m 119 #[.val (.ref x), .val (.int (8192 : Int32)), .val (.int (lim - (0 : Int32))), .val (.long (mx_res (Int32.toInt64 (8192 : Int32)) ((2 : Int64) * (Int32.toInt64 (0 : Int32))))), .second, .val (.int (mr_cap lim)), .val (.ref ad13)] [])) _
    refine XS.aloadN X46.here hx rfl (hb hby d13_119) rfl rfl ?_
    show Steps p.tables e below (T46.setTop (mkF m 120 #[.val (.ref x), .val (.int (8192 : Int32)), .val (.int (lim - (0 : Int32))), .val (.long (mx_res (Int32.toInt64 (8192 : Int32)) ((2 : Int64) * (Int32.toInt64 (0 : Int32))))), .second, .val (.int (mr_cap lim)), .val (.ref ad13)] [(.ref x)])) _
    refine XS.aload X46.here hx rfl (hb hby d13_120) rfl rfl ?_
    show Steps p.tables e below (T46.setTop (mkF m 122 #[.val (.ref x), .val (.int (8192 : Int32)), .val (.int (lim - (0 : Int32))), .val (.long (mx_res (Int32.toInt64 (8192 : Int32)) ((2 : Int64) * (Int32.toInt64 (0 : Int32))))), .second, .val (.int (mr_cap lim)), .val (.ref ad13)] [(.ref ad13), (.ref x)])) _
    refine st60 _ ?_
    show Steps p.tables e below (T60.setTop (mkF m 125 #[.val (.ref x), .val (.int (8192 : Int32)), .val (.int (lim - (0 : Int32))), .val (.long (mx_res (Int32.toInt64 (8192 : Int32)) ((2 : Int64) * (Int32.toInt64 (0 : Int32))))), .second, .val (.int (mr_cap lim)), .val (.ref ad13)] [])) _
    exact X60.returnOut hx Bd.returns (hb hby d13_125) hr
  · show Q_mr Z x fl tn lim la kn cK h0 n0 _ T60.heap _
    rw [e60]
    exact ⟨ad13, kx13, rfl, Nn60, K60, q61, q62, q60n, q63, q64, q65, q66, q73, q72, gn13, ne_x_ad13.symm⟩
theorem ef_r1 (m : MethodId) (x : Addr) : entryFrame m #[(.ref x)] 1 = (mkF m 0 #[.val (.ref x)] []) := by first | (simp [entryFrame, mkF, argsToLocals, Value.category]; done) | rfl
def Q_r1 (Z : State) (x : Addr) (fl : Addr) (tn : Addr) (lim : Int32) (la : Addr) (kn : ClassId) (h0 : Heap) (n0 : Nat) (v : Option Value) (h : Heap) (L : List Loc) : Prop := v = some (.int ((0 : Int32) - (0 : Int32))) ∧ Fr n0 L ∧ h = h0
set_option maxRecDepth 65536 in
set_option maxHeartbeats 40000000 in
theorem rm_r1 (l : Launch) (Z : State) (a0 : Array Value) (hw : ∀ d ∈ tables_1, d.before a0 Z = true) (ws : List Jvm.Cond) (x : Addr) (fl : Addr) (tn : Addr) (lim : Int32) (la : Addr) (kn : ClassId) (h0 : Heap) (n0 : Nat) (Z0 : n0 ≤ h0.size) (k0_ : Exa Z h0 x "com/example/riskloom/riskloom/gateway/http/BodyBuffer") (k1_ : Fld Z h0 x "com/example/riskloom/riskloom/gateway/http/BodyBuffer" "full" "Ljava/util/List;" (.ref fl)) (k2_ : Fld Z h0 x "com/example/riskloom/riskloom/gateway/http/BodyBuffer" "last" "[B" (.ref tn)) (k3_ : Fld Z h0 x "com/example/riskloom/riskloom/gateway/http/BodyBuffer" "limit" "I" (.int lim)) (k4_ : Fld Z h0 x "com/example/riskloom/riskloom/gateway/http/BodyBuffer" "heap" "Ljava/util/function/IntFunction;" (.ref la)) (k5_ : Fld Z h0 x "com/example/riskloom/riskloom/gateway/http/BodyBuffer" "lastLength" "I" (.int (0 : Int32))) (k6_ : Fld Z h0 x "com/example/riskloom/riskloom/gateway/http/BodyBuffer" "length" "I" (.int (0 : Int32))) (k7_ : Fld Z h0 x "com/example/riskloom/riskloom/gateway/http/BodyBuffer" "heldBytes" "J" (.long (0 : Int64))) (k8_ : Arv Z h0 tn kn .byte (0 : Int32) [] (.int (0 : Int32))) (hl : if_icmp.holds .ge (0 : Int32) lim = true)  :
    MetFree l (⟨"com/example/riskloom/riskloom/gateway/http/BodyBuffer", "room", "()I"⟩ : MethodName) (head1 (Jvm.Cond.code (⟨"com/example/riskloom/riskloom/gateway/http/BodyBuffer", "room", "()I"⟩ : MethodName) prog_17_method_4_code 1 (some .int) :: ws) ({ frames := 0, cells := 0, slots := 0, locals := 0 } : Room)) (fun a U => a = #[(.ref x)] ∧ Z.Warmed39 U.vm ∧ U.heap = h0) (fun _ _ _ _ _ => True) (fun _ U o U' => ∃ v L, o = .returned v ∧ Q_r1 Z x fl tn lim la kn h0 n0 v U'.heap L ∧ FrameEnd U o U' L ({ frames := 0, cells := 0, slots := 0, locals := 0 } : Room).cells ({ frames := 0, cells := 0, slots := 0, locals := 0 } : Room).slots) := by
  refine MetFree.of_bodySF (plainFor_of_name pn_3) hisR ?_
  intro p e s m args below meth c s₁ Bd hml0 hP hK
  obtain ⟨rfl, hZ, hh⟩ := hP
  have hx := Bd.exec
  have hby := Bd.bytes
  have hml : c.maxLocals = 1 := hml0
  have hown : s.vm.findClass "com/example/riskloom/riskloom/gateway/http/BodyBuffer" = some m.cls := findClass_of_methodNamed Bd.named
  have hnm := (name_of_methodNamed Bd.named Bd.method).1
  have X0 : Stand p l e ({ frames := 0, cells := 0, slots := 0, locals := 0 } : Room) s m #[(.ref x)] below meth c s₁ [] 0 0 := Stand.of_body Bd
  have e0 : s₁.heap = h0 := by rw [← hh, Bd.state]; rfl
  have N0 := Fr.nil n0
  have pre0 : ∀ t, Steps p.tables e below (s₁.setTop (mkF m 0 #[.val (.ref x)] [])) t → Steps p.tables e below (s₁.setTop (entryFrame m #[(.ref x)] 1)) t := fun t k => castTop (ef_r1 m x) k
  obtain ⟨T1, X1, e1, st1⟩ := getF X0 hx hZ hown (host := "") (Or.inl (hw _ (List.mem_of_getElem? (i := 54) rfl))) Via.refl e0 k5_ (g := (mkF m 1 #[.val (.ref x)] [(.ref x)])) rfl rfl (hb hby d7_1)
  obtain ⟨T2, X2, e2, st2⟩ := getF X1 hx hZ hown (host := "") (Or.inl (hw _ (List.mem_of_getElem? (i := 43) rfl))) Via.refl e1 k2_ (g := (mkF m 5 #[.val (.ref x)] [(.ref x), (.int (0 : Int32))])) rfl rfl (hb hby d7_5)
  obtain ⟨c3, A3, q3, S3, M3, H3, U3⟩ := id k8_
  obtain ⟨T4, X4, e4, st4⟩ := getF X2 hx hZ hown (host := "") (Or.inl (hw _ (List.mem_of_getElem? (i := 56) rfl))) Via.refl e2 k6_ (g := (mkF m 13 #[.val (.ref x)] [(.ref x)])) rfl rfl (hb hby d7_13)
  obtain ⟨T5, X5, e5, st5⟩ := getF X4 hx hZ hown (host := "") (Or.inl (hw _ (List.mem_of_getElem? (i := 45) rfl))) Via.refl e4 k3_ (g := (mkF m 17 #[.val (.ref x)] [(.ref x), (.int (0 : Int32))])) rfl rfl (hb hby d7_17)
  obtain ⟨T6, X6, e6, st6⟩ := getF X5 hx hZ hown (host := "") (Or.inl (hw _ (List.mem_of_getElem? (i := 43) rfl))) Via.refl e5 k2_ (g := (mkF m 31 #[.val (.ref x)] [(.ref x)])) rfl rfl (hb hby d7_31)
  obtain ⟨T7, X7, e7, st7⟩ := getF X6 hx hZ hown (host := "") (Or.inl (hw _ (List.mem_of_getElem? (i := 54) rfl))) Via.refl e6 k5_ (g := (mkF m 36 #[.val (.ref x)] [(.ref x), (.int (0 : Int32))])) rfl rfl (hb hby d7_36)
  obtain ⟨fs, hr, hrun, hended, hW, hsame⟩ := X7.leave (v := some (.int ((0 : Int32) - (0 : Int32)))) (fun h => by rw [Bd.returns] at h; cases h)
  refine ⟨_, _, pre0 _ ?_, hrun, hended, _, _, rfl, ?_, ⟨_, rfl⟩, hW, hsame.mono (Nat.le_of_ble_eq_true rfl) (Nat.le_of_ble_eq_true rfl)⟩
  · show Steps p.tables e below (s₁.setTop (mkF m 0 #[.val (.ref x)] [])) _
    refine XS.aloadN X0.here hx rfl (hb hby d7_0) rfl rfl ?_
    show Steps p.tables e below (s₁.setTop (mkF m 1 #[.val (.ref x)] [(.ref x)])) _
    refine st1 _ ?_
    show Steps p.tables e below (T1.setTop (mkF m 4 #[.val (.ref x)] [(.int (0 : Int32))])) _
    refine XS.aloadN X1.here hx rfl (hb hby d7_4) rfl rfl ?_
    show Steps p.tables e below (T1.setTop (mkF m 5 #[.val (.ref x)] [(.ref x), (.int (0 : Int32))])) _
    refine st2 _ ?_
    show Steps p.tables e below (T2.setTop (mkF m 8 #[.val (.ref x)] [(.ref tn), (.int (0 : Int32))])) _
    refine X2.arraylength hx (by rw [e2]; exact A3.1) (State.isArrayOf_alike hZ.alike A3.2.1) (g := (mkF m 8 #[.val (.ref x)] [(.ref tn), (.int (0 : Int32))])) rfl rfl (hb hby d7_8) _ ?_
    rw [len_of S3 M3]
    show Steps p.tables e below (T2.setTop (mkF m 9 #[.val (.ref x)] [(.int (0 : Int32)), (.int (0 : Int32))])) _
    refine XS.icmpNo X2.here hx rfl (hb hby d7_9) rfl rfl ?_
    show Steps p.tables e below (T2.setTop (mkF m 12 #[.val (.ref x)] [])) _
    refine XS.aloadN X2.here hx rfl (hb hby d7_12) rfl rfl ?_
    show Steps p.tables e below (T2.setTop (mkF m 13 #[.val (.ref x)] [(.ref x)])) _
    refine st4 _ ?_
    show Steps p.tables e below (T4.setTop (mkF m 16 #[.val (.ref x)] [(.int (0 : Int32))])) _
    refine XS.aloadN X4.here hx rfl (hb hby d7_16) rfl rfl ?_
    show Steps p.tables e below (T4.setTop (mkF m 17 #[.val (.ref x)] [(.ref x), (.int (0 : Int32))])) _
    refine st5 _ ?_
    show Steps p.tables e below (T5.setTop (mkF m 20 #[.val (.ref x)] [(.int lim), (.int (0 : Int32))])) _
    refine XS.icmpYes X5.here hx rfl (pc0 := 20) (pc' := 30) rfl (hb hby d7_20) rfl hl (by decide) (by decide) ?_
    show Steps p.tables e below (T5.setTop (mkF m 30 #[.val (.ref x)] [])) _
    refine XS.aloadN X5.here hx rfl (hb hby d7_30) rfl rfl ?_
    show Steps p.tables e below (T5.setTop (mkF m 31 #[.val (.ref x)] [(.ref x)])) _
    refine st6 _ ?_
    show Steps p.tables e below (T6.setTop (mkF m 34 #[.val (.ref x)] [(.ref tn)])) _
    refine X6.arraylength hx (by rw [e6]; exact A3.1) (State.isArrayOf_alike hZ.alike A3.2.1) (g := (mkF m 34 #[.val (.ref x)] [(.ref tn)])) rfl rfl (hb hby d7_34) _ ?_
    rw [len_of S3 M3]
    show Steps p.tables e below (T6.setTop (mkF m 35 #[.val (.ref x)] [(.int (0 : Int32))])) _
    refine XS.aloadN X6.here hx rfl (hb hby d7_35) rfl rfl ?_
    show Steps p.tables e below (T6.setTop (mkF m 36 #[.val (.ref x)] [(.ref x), (.int (0 : Int32))])) _
    refine st7 _ ?_
    show Steps p.tables e below (T7.setTop (mkF m 39 #[.val (.ref x)] [(.int (0 : Int32)), (.int (0 : Int32))])) _
    refine XS.isub X7.here hx rfl (hb hby d7_39) rfl ?_
    show Steps p.tables e below (T7.setTop (mkF m 40 #[.val (.ref x)] [(.int ((0 : Int32) - (0 : Int32)))])) _
    exact retI X7 hx Bd.returns (hb hby d7_40) hr
  · show Q_r1 Z x fl tn lim la kn h0 n0 _ T7.heap _
    exact ⟨rfl, N0, e7⟩
theorem ef_r3 (m : MethodId) (x : Addr) : entryFrame m #[(.ref x)] 1 = (mkF m 0 #[.val (.ref x)] []) := by first | (simp [entryFrame, mkF, argsToLocals, Value.category]; done) | rfl
def Q_r3 (Z : State) (x : Addr) (fl : Addr) (ar : Addr) (lim : Int32) (la : Addr) (ll : Int32) (ln : Int32) (hb_ : Int64) (ka : ClassId) (n : Int32) (h0 : Heap) (n0 : Nat) (v : Option Value) (h : Heap) (L : List Loc) : Prop := v = some (.int (n - ll)) ∧ Fr n0 L ∧ h = h0
set_option maxRecDepth 65536 in
set_option maxHeartbeats 40000000 in
theorem rm_r3 (l : Launch) (Z : State) (a0 : Array Value) (hw : ∀ d ∈ tables_1, d.before a0 Z = true) (ws : List Jvm.Cond) (x : Addr) (fl : Addr) (ar : Addr) (lim : Int32) (la : Addr) (ll : Int32) (ln : Int32) (hb_ : Int64) (ka : ClassId) (n : Int32) (h0 : Heap) (n0 : Nat) (Z0 : n0 ≤ h0.size) (k0_ : Exa Z h0 x "com/example/riskloom/riskloom/gateway/http/BodyBuffer") (k1_ : Fld Z h0 x "com/example/riskloom/riskloom/gateway/http/BodyBuffer" "full" "Ljava/util/List;" (.ref fl)) (k2_ : Fld Z h0 x "com/example/riskloom/riskloom/gateway/http/BodyBuffer" "last" "[B" (.ref ar)) (k3_ : Fld Z h0 x "com/example/riskloom/riskloom/gateway/http/BodyBuffer" "limit" "I" (.int lim)) (k4_ : Fld Z h0 x "com/example/riskloom/riskloom/gateway/http/BodyBuffer" "heap" "Ljava/util/function/IntFunction;" (.ref la)) (k5_ : Fld Z h0 x "com/example/riskloom/riskloom/gateway/http/BodyBuffer" "lastLength" "I" (.int ll)) (k6_ : Fld Z h0 x "com/example/riskloom/riskloom/gateway/http/BodyBuffer" "length" "I" (.int ln)) (k7_ : Fld Z h0 x "com/example/riskloom/riskloom/gateway/http/BodyBuffer" "heldBytes" "J" (.long hb_)) (k8_ : Arv Z h0 ar ka .byte n [] (.int (0 : Int32))) (hl : if_icmp.holds .ne ll n = true)  :
    MetFree l (⟨"com/example/riskloom/riskloom/gateway/http/BodyBuffer", "room", "()I"⟩ : MethodName) (head1 (Jvm.Cond.code (⟨"com/example/riskloom/riskloom/gateway/http/BodyBuffer", "room", "()I"⟩ : MethodName) prog_17_method_4_code 1 (some .int) :: ws) ({ frames := 0, cells := 0, slots := 0, locals := 0 } : Room)) (fun a U => a = #[(.ref x)] ∧ Z.Warmed39 U.vm ∧ U.heap = h0) (fun _ _ _ _ _ => True) (fun _ U o U' => ∃ v L, o = .returned v ∧ Q_r3 Z x fl ar lim la ll ln hb_ ka n h0 n0 v U'.heap L ∧ FrameEnd U o U' L ({ frames := 0, cells := 0, slots := 0, locals := 0 } : Room).cells ({ frames := 0, cells := 0, slots := 0, locals := 0 } : Room).slots) := by
  refine MetFree.of_bodySF (plainFor_of_name pn_3) hisR ?_
  intro p e s m args below meth c s₁ Bd hml0 hP hK
  obtain ⟨rfl, hZ, hh⟩ := hP
  have hx := Bd.exec
  have hby := Bd.bytes
  have hml : c.maxLocals = 1 := hml0
  have hown : s.vm.findClass "com/example/riskloom/riskloom/gateway/http/BodyBuffer" = some m.cls := findClass_of_methodNamed Bd.named
  have hnm := (name_of_methodNamed Bd.named Bd.method).1
  have X0 : Stand p l e ({ frames := 0, cells := 0, slots := 0, locals := 0 } : Room) s m #[(.ref x)] below meth c s₁ [] 0 0 := Stand.of_body Bd
  have e0 : s₁.heap = h0 := by rw [← hh, Bd.state]; rfl
  have N0 := Fr.nil n0
  have pre0 : ∀ t, Steps p.tables e below (s₁.setTop (mkF m 0 #[.val (.ref x)] [])) t → Steps p.tables e below (s₁.setTop (entryFrame m #[(.ref x)] 1)) t := fun t k => castTop (ef_r3 m x) k
  obtain ⟨T1, X1, e1, st1⟩ := getF X0 hx hZ hown (host := "") (Or.inl (hw _ (List.mem_of_getElem? (i := 54) rfl))) Via.refl e0 k5_ (g := (mkF m 1 #[.val (.ref x)] [(.ref x)])) rfl rfl (hb hby d7_1)
  obtain ⟨T2, X2, e2, st2⟩ := getF X1 hx hZ hown (host := "") (Or.inl (hw _ (List.mem_of_getElem? (i := 43) rfl))) Via.refl e1 k2_ (g := (mkF m 5 #[.val (.ref x)] [(.ref x), (.int ll)])) rfl rfl (hb hby d7_5)
  obtain ⟨c3, A3, q3, S3, M3, H3, U3⟩ := id k8_
  obtain ⟨T4, X4, e4, st4⟩ := getF X2 hx hZ hown (host := "") (Or.inl (hw _ (List.mem_of_getElem? (i := 43) rfl))) Via.refl e2 k2_ (g := (mkF m 31 #[.val (.ref x)] [(.ref x)])) rfl rfl (hb hby d7_31)
  obtain ⟨T5, X5, e5, st5⟩ := getF X4 hx hZ hown (host := "") (Or.inl (hw _ (List.mem_of_getElem? (i := 54) rfl))) Via.refl e4 k5_ (g := (mkF m 36 #[.val (.ref x)] [(.ref x), (.int n)])) rfl rfl (hb hby d7_36)
  obtain ⟨fs, hr, hrun, hended, hW, hsame⟩ := X5.leave (v := some (.int (n - ll))) (fun h => by rw [Bd.returns] at h; cases h)
  refine ⟨_, _, pre0 _ ?_, hrun, hended, _, _, rfl, ?_, ⟨_, rfl⟩, hW, hsame.mono (Nat.le_of_ble_eq_true rfl) (Nat.le_of_ble_eq_true rfl)⟩
  · show Steps p.tables e below (s₁.setTop (mkF m 0 #[.val (.ref x)] [])) _
    refine XS.aloadN X0.here hx rfl (hb hby d7_0) rfl rfl ?_
    show Steps p.tables e below (s₁.setTop (mkF m 1 #[.val (.ref x)] [(.ref x)])) _
    refine st1 _ ?_
    show Steps p.tables e below (T1.setTop (mkF m 4 #[.val (.ref x)] [(.int ll)])) _
    refine XS.aloadN X1.here hx rfl (hb hby d7_4) rfl rfl ?_
    show Steps p.tables e below (T1.setTop (mkF m 5 #[.val (.ref x)] [(.ref x), (.int ll)])) _
    refine st2 _ ?_
    show Steps p.tables e below (T2.setTop (mkF m 8 #[.val (.ref x)] [(.ref ar), (.int ll)])) _
    refine X2.arraylength hx (by rw [e2]; exact A3.1) (State.isArrayOf_alike hZ.alike A3.2.1) (g := (mkF m 8 #[.val (.ref x)] [(.ref ar), (.int ll)])) rfl rfl (hb hby d7_8) _ ?_
    rw [len_of S3 M3]
    show Steps p.tables e below (T2.setTop (mkF m 9 #[.val (.ref x)] [(.int n), (.int ll)])) _
    refine XS.icmpYes X2.here hx rfl (pc0 := 9) (pc' := 30) rfl (hb hby d7_9) rfl hl (by decide) (by decide) ?_
    show Steps p.tables e below (T2.setTop (mkF m 30 #[.val (.ref x)] [])) _
    refine XS.aloadN X2.here hx rfl (hb hby d7_30) rfl rfl ?_
    show Steps p.tables e below (T2.setTop (mkF m 31 #[.val (.ref x)] [(.ref x)])) _
    refine st4 _ ?_
    show Steps p.tables e below (T4.setTop (mkF m 34 #[.val (.ref x)] [(.ref ar)])) _
    refine X4.arraylength hx (by rw [e4]; exact A3.1) (State.isArrayOf_alike hZ.alike A3.2.1) (g := (mkF m 34 #[.val (.ref x)] [(.ref ar)])) rfl rfl (hb hby d7_34) _ ?_
    rw [len_of S3 M3]
    show Steps p.tables e below (T4.setTop (mkF m 35 #[.val (.ref x)] [(.int n)])) _
    refine XS.aloadN X4.here hx rfl (hb hby d7_35) rfl rfl ?_
    show Steps p.tables e below (T4.setTop (mkF m 36 #[.val (.ref x)] [(.ref x), (.int n)])) _
    refine st5 _ ?_
    show Steps p.tables e below (T5.setTop (mkF m 39 #[.val (.ref x)] [(.int ll), (.int n)])) _
    refine XS.isub X5.here hx rfl (hb hby d7_39) rfl ?_
    show Steps p.tables e below (T5.setTop (mkF m 40 #[.val (.ref x)] [(.int (n - ll))])) _
    exact retI X5 hx Bd.returns (hb hby d7_40) hr
  · show Q_r3 Z x fl ar lim la ll ln hb_ ka n h0 n0 _ T5.heap _
    exact ⟨rfl, N0, e5⟩
theorem ef_r2 (m : MethodId) (x : Addr) : entryFrame m #[(.ref x)] 1 = (mkF m 0 #[.val (.ref x)] []) := by first | (simp [entryFrame, mkF, argsToLocals, Value.category]; done) | rfl
def Q_r2 (Z : State) (x : Addr) (fl : Addr) (tn : Addr) (lim : Int32) (la : Addr) (kn : ClassId) (cK : ClassId) (h0 : Heap) (n0 : Nat) (v : Option Value) (h : Heap) (L : List Loc) : Prop := ∃ (an : Addr) (kx : ClassId), v = some (.int ((mr_cap lim) - (0 : Int32))) ∧ Fr n0 L ∧ Keep h0 h [x] ∧ (Exa Z h x "com/example/riskloom/riskloom/gateway/http/BodyBuffer") ∧ (Fld Z h x "com/example/riskloom/riskloom/gateway/http/BodyBuffer" "full" "Ljava/util/List;" (.ref fl)) ∧ (Fld Z h x "com/example/riskloom/riskloom/gateway/http/BodyBuffer" "last" "[B" (.ref an)) ∧ (Fld Z h x "com/example/riskloom/riskloom/gateway/http/BodyBuffer" "limit" "I" (.int lim)) ∧ (Fld Z h x "com/example/riskloom/riskloom/gateway/http/BodyBuffer" "heap" "Ljava/util/function/IntFunction;" (.ref la)) ∧ (Fld Z h x "com/example/riskloom/riskloom/gateway/http/BodyBuffer" "lastLength" "I" (.int (0 : Int32))) ∧ (Fld Z h x "com/example/riskloom/riskloom/gateway/http/BodyBuffer" "length" "I" (.int (0 : Int32))) ∧ (Fld Z h x "com/example/riskloom/riskloom/gateway/http/BodyBuffer" "heldBytes" "J" (.long ((0 : Int64) + (Int32.toInt64 ((mr_cap lim) - (0 : Int32)))))) ∧ (Arv Z h an kx .byte (mr_cap lim) [] (.int (0 : Int32))) ∧ (n0 ≤ an) ∧ (an ≠ x)
set_option maxRecDepth 65536 in
set_option maxHeartbeats 40000000 in
theorem rm_r2 (l : Launch) (Z : State) (a0 : Array Value) (hw : ∀ d ∈ tables_1, d.before a0 Z = true) (ws : List Jvm.Cond) (x : Addr) (fl : Addr) (tn : Addr) (lim : Int32) (la : Addr) (kn : ClassId) (cK : ClassId) (h0 : Heap) (n0 : Nat) (Z0 : n0 ≤ h0.size) (k0_ : Exa Z h0 x "com/example/riskloom/riskloom/gateway/http/BodyBuffer") (k1_ : Fld Z h0 x "com/example/riskloom/riskloom/gateway/http/BodyBuffer" "full" "Ljava/util/List;" (.ref fl)) (k2_ : Fld Z h0 x "com/example/riskloom/riskloom/gateway/http/BodyBuffer" "last" "[B" (.ref tn)) (k3_ : Fld Z h0 x "com/example/riskloom/riskloom/gateway/http/BodyBuffer" "limit" "I" (.int lim)) (k4_ : Fld Z h0 x "com/example/riskloom/riskloom/gateway/http/BodyBuffer" "heap" "Ljava/util/function/IntFunction;" (.ref la)) (k5_ : Fld Z h0 x "com/example/riskloom/riskloom/gateway/http/BodyBuffer" "lastLength" "I" (.int (0 : Int32))) (k6_ : Fld Z h0 x "com/example/riskloom/riskloom/gateway/http/BodyBuffer" "length" "I" (.int (0 : Int32))) (k7_ : Fld Z h0 x "com/example/riskloom/riskloom/gateway/http/BodyBuffer" "heldBytes" "J" (.long (0 : Int64))) (k8_ : Exa Z h0 fl "java/util/ArrayList") (k9_ : Fld Z h0 fl "java/util/ArrayList" "size" "I" (.int (0 : Int32))) (k10_ : Arv Z h0 tn kn .byte (0 : Int32) [] (.int (0 : Int32))) (k11_ : n0 ≤ x) (k12_ : Old Z n0 h0) (k13_ : fl ≠ x) (k14_ : tn ≠ x) (LM : own_Lam Z la cK) (hl : 0 < lim.toInt)  :
    MetFree l (⟨"com/example/riskloom/riskloom/gateway/http/BodyBuffer", "room", "()I"⟩ : MethodName) (head1 (Jvm.Cond.code (⟨"com/example/riskloom/riskloom/gateway/http/BodyBuffer", "room", "()I"⟩ : MethodName) prog_17_method_4_code 1 (some .int) :: ws) ({ frames := 3, cells := 1, slots := 8192, locals := 58 } : Room)) (fun a U => a = #[(.ref x)] ∧ Z.WarmedH U.vm ∧ U.heap = h0) (fun _ _ _ _ _ => True) (fun _ U o U' => ∃ v L, o = .returned v ∧ Q_r2 Z x fl tn lim la kn cK h0 n0 v U'.heap L ∧ FrameEnd U o U' L ({ frames := 3, cells := 1, slots := 8192, locals := 58 } : Room).cells ({ frames := 3, cells := 1, slots := 8192, locals := 58 } : Room).slots) := by
  refine MetFree.of_bodySF (plainFor_of_name pn_3) hisR ?_
  intro p e s m args below meth c s₁ Bd hml0 hP hK
  obtain ⟨rfl, hZH, hh⟩ := hP
  have hZ := hZH.wide
  have hx := Bd.exec
  have hby := Bd.bytes
  have hml : c.maxLocals = 1 := hml0
  have hown : s.vm.findClass "com/example/riskloom/riskloom/gateway/http/BodyBuffer" = some m.cls := findClass_of_methodNamed Bd.named
  have hnm := (name_of_methodNamed Bd.named Bd.method).1
  have X0 : Stand p l e ({ frames := 3, cells := 1, slots := 8192, locals := 58 } : Room) s m #[(.ref x)] below meth c s₁ [] 0 0 := Stand.of_body Bd
  have e0 : s₁.heap = h0 := by rw [← hh, Bd.state]; rfl
  have N0 := Fr.nil n0
  have pre0 : ∀ t, Steps p.tables e below (s₁.setTop (mkF m 0 #[.val (.ref x)] [])) t → Steps p.tables e below (s₁.setTop (entryFrame m #[(.ref x)] 1)) t := fun t k => castTop (ef_r2 m x) k
  have K0 := Keep.refl h0 [x]
  obtain ⟨T1, X1, e1, st1⟩ := getF X0 hx hZ hown (host := "") (Or.inl (hw _ (List.mem_of_getElem? (i := 54) rfl))) Via.refl e0 k5_ (g := (mkF m 1 #[.val (.ref x)] [(.ref x)])) rfl rfl (hb hby d7_1)
  obtain ⟨T2, X2, e2, st2⟩ := getF X1 hx hZ hown (host := "") (Or.inl (hw _ (List.mem_of_getElem? (i := 43) rfl))) Via.refl e1 k2_ (g := (mkF m 5 #[.val (.ref x)] [(.ref x), (.int (0 : Int32))])) rfl rfl (hb hby d7_5)
  obtain ⟨c3, A3, q3, S3, M3, H3, U3⟩ := id k10_
  obtain ⟨T4, X4, e4, st4⟩ := getF X2 hx hZ hown (host := "") (Or.inl (hw _ (List.mem_of_getElem? (i := 56) rfl))) Via.refl e2 k6_ (g := (mkF m 13 #[.val (.ref x)] [(.ref x)])) rfl rfl (hb hby d7_13)
  obtain ⟨T5, X5, e5, st5⟩ := getF X4 hx hZ hown (host := "") (Or.inl (hw _ (List.mem_of_getElem? (i := 45) rfl))) Via.refl e4 k3_ (g := (mkF m 17 #[.val (.ref x)] [(.ref x), (.int (0 : Int32))])) rfl rfl (hb hby d7_17)
  obtain ⟨cell6, kc6, hc6, -, -, hs6, -⟩ := id k0_
  have ho6 : ∀ q, cell6.vm ≠ .statics q := fun q h => by rw [h] at hs6; cases hs6
  have pv6 := Cond.privateMethod_at (mvP hZ (hw _ (List.mem_of_getElem? (i := 88) rfl)) (s := s) (args := #[]))
  obtain ⟨vv6, _, ⟨T6, L6, k6, n6⟩, -, X6, ⟨_, _, tt6, Lc6, ee6, -, ⟨vw6, Lq6, hv6, hQ6⟩, l6, hL6, y6, z6⟩, st6⟩ := X5.privateBack hx (y := (⟨"com/example/riskloom/riskloom/gateway/http/BodyBuffer", "makeRoom", "(I)V"⟩ : MethodName)) hown (mvT hZ (hw _ (List.mem_of_getElem? (i := 86) rfl))) (mvT hZ (hw _ (List.mem_of_getElem? (i := 87) rfl))) (own_selPriv (z := (⟨"com/example/riskloom/riskloom/gateway/http/BodyBuffer", "room", "()I"⟩ : MethodName)) rfl (mvT hZ (hw _ (List.mem_of_getElem? (i := 87) rfl))) pv6 (mvT hZ (hw _ (List.mem_of_getElem? (i := 52) rfl))) (by decide)) pv6 (mvT hZ (hw _ (List.mem_of_getElem? (i := 89) rfl))) (by decide) (back_of (W := 0) (own_met (rm_mr l Z a0 hw [] x fl tn lim la kn cK (h0) n0 Z0 k0_ k1_ k2_ k3_ k4_ k5_ k6_ k7_ k8_ k9_ k10_ k11_ k12_ k13_ k14_ LM hl) (n0 := n0) (fun _ _ _ ⟨_, _, _, q, _⟩ => q)) (fun _ _ _ _ h => h) rfl rfl (by decide) (by decide) (fun d hd a' U hU => by rw [List.mem_singleton.mp hd]; exact mvT (wtrans hZ hU) (hw _ (List.mem_of_getElem? (i := 89) rfl))) (List.mem_singleton.mpr rfl) (fun a' U hU => mvT (wtrans hZ hU) (hw _ (List.mem_of_getElem? (i := 2) rfl)))) (g := (mkF m 27 #[.val (.ref x)] [(.int (8192 : Int32)), (.ref x)])) rfl (by rw [hml]; rfl) (Steps.refl _) (a := x) (by rw [e5]; exact hc6) ho6 (argsL := [(.int (8192 : Int32))]) (rest := []) (lenOf pd_6 rfl) rfl (by show 2 * 0 + _ ≤ _; exact Nat.le_of_eq rfl) (hb hby d7_27) (fun vm1 h1 => ⟨(by decide : 0 + 1 ≤ _), (by decide : 0 + 8192 ≤ _), rfl, State.WarmedH.trans hZH h1, e5⟩)
  dsimp only [Pt.U, Pt.locs, Pt.cells, Pt.slots] at X6 l6 y6 z6 st6 ee6
  rw [← ee6] at hQ6
  have hw6 : vv6 = vw6 := by injection hv6
  rw [hw6] at st6
  rw [l6, y6, z6] at X6
  replace X6 : Stand _ _ _ _ _ _ _ _ _ _ _ _ 1 8192 := X6
  obtain ⟨x6_0, x6_1, vq6, N6, K6, p6_0, p6_1, p6_2, p6_3, p6_4, p6_5, p6_6, p6_7, p6_8, p6_9, p6_10⟩ := hQ6
  rw [vq6] at st6
  have N6 : Fr n0 Lc6 := hL6
  have Nn6 := Fr.app N0 N6
  have q7 : Exa Z T6.heap fl "java/util/ArrayList" := (k8_.keep K6)
  have q8 : Fld Z T6.heap fl "java/util/ArrayList" "size" "I" (.int (0 : Int32)) := (k9_.keep K6 (fun q => k13_ (List.mem_singleton.mp q)))
  have q9 : Arv Z T6.heap tn kn .byte (0 : Int32) [] (.int (0 : Int32)) := (k10_.keep K6 (fun q => k14_ (List.mem_singleton.mp q)))
  have q10 : Old Z n0 T6.heap := (k12_.keep K6 (allS k11_ all0))
  have Z6 : n0 ≤ T6.heap.size := Nat.le_trans Z0 K6.1
  have KK6 := K0.trans K6 (fun _ hx => Or.inl hx)
  obtain ⟨T11, X11, e11, st11⟩ := getF X6 hx hZ hown (host := "") (Or.inl (hw _ (List.mem_of_getElem? (i := 43) rfl))) Via.refl rfl p6_2 (g := (mkF m 31 #[.val (.ref x)] [(.ref x)])) rfl rfl (hb hby d7_31)
  obtain ⟨c12, A12, q12, S12, M12, H12, U12⟩ := id p6_8
  obtain ⟨T13, X13, e13, st13⟩ := getF X11 hx hZ hown (host := "") (Or.inl (hw _ (List.mem_of_getElem? (i := 54) rfl))) Via.refl e11 p6_5 (g := (mkF m 36 #[.val (.ref x)] [(.ref x), (.int (mr_cap lim))])) rfl rfl (hb hby d7_36)
  obtain ⟨fs, hr, hrun, hended, hW, hsame⟩ := X13.leave (v := some (.int ((mr_cap lim) - (0 : Int32)))) (fun h => by rw [Bd.returns] at h; cases h)
  refine ⟨_, _, pre0 _ ?_, hrun, hended, _, _, rfl, ?_, ⟨_, rfl⟩, hW, hsame.mono (Nat.le_of_ble_eq_true rfl) (Nat.le_of_ble_eq_true rfl)⟩
  · show Steps p.tables e below (s₁.setTop (mkF m 0 #[.val (.ref x)] [])) _
    refine XS.aloadN X0.here hx rfl (hb hby d7_0) rfl rfl ?_
    show Steps p.tables e below (s₁.setTop (mkF m 1 #[.val (.ref x)] [(.ref x)])) _
    refine st1 _ ?_
    show Steps p.tables e below (T1.setTop (mkF m 4 #[.val (.ref x)] [(.int (0 : Int32))])) _
    refine XS.aloadN X1.here hx rfl (hb hby d7_4) rfl rfl ?_
    show Steps p.tables e below (T1.setTop (mkF m 5 #[.val (.ref x)] [(.ref x), (.int (0 : Int32))])) _
    refine st2 _ ?_
    show Steps p.tables e below (T2.setTop (mkF m 8 #[.val (.ref x)] [(.ref tn), (.int (0 : Int32))])) _
    refine X2.arraylength hx (by rw [e2]; exact A3.1) (State.isArrayOf_alike hZ.alike A3.2.1) (g := (mkF m 8 #[.val (.ref x)] [(.ref tn), (.int (0 : Int32))])) rfl rfl (hb hby d7_8) _ ?_
    rw [len_of S3 M3]
    show Steps p.tables e below (T2.setTop (mkF m 9 #[.val (.ref x)] [(.int (0 : Int32)), (.int (0 : Int32))])) _
    refine XS.icmpNo X2.here hx rfl (hb hby d7_9) rfl rfl ?_
    show Steps p.tables e below (T2.setTop (mkF m 12 #[.val (.ref x)] [])) _
    refine XS.aloadN X2.here hx rfl (hb hby d7_12) rfl rfl ?_
    show Steps p.tables e below (T2.setTop (mkF m 13 #[.val (.ref x)] [(.ref x)])) _
    refine st4 _ ?_
    show Steps p.tables e below (T4.setTop (mkF m 16 #[.val (.ref x)] [(.int (0 : Int32))])) _
    refine XS.aloadN X4.here hx rfl (hb hby d7_16) rfl rfl ?_
    show Steps p.tables e below (T4.setTop (mkF m 17 #[.val (.ref x)] [(.ref x), (.int (0 : Int32))])) _
    refine st5 _ ?_
    show Steps p.tables e below (T5.setTop (mkF m 20 #[.val (.ref x)] [(.int lim), (.int (0 : Int32))])) _
    refine XS.icmpNo X5.here hx rfl (hb hby d7_20) rfl (own_lim hl) ?_
    show Steps p.tables e below (T5.setTop (mkF m 23 #[.val (.ref x)] [])) _
    refine XS.aloadN X5.here hx rfl (hb hby d7_23) rfl rfl ?_
    show Steps p.tables e below (T5.setTop (mkF m 24 #[.val (.ref x)] [(.ref x)])) _
    refine XS.sipush X5.here hx rfl (hb hby d7_24) ?_
    show Steps p.tables e below (T5.setTop (mkF m 27 #[.val (.ref x)] [(.int (8192 : Int32)), (.ref x)])) _
    refine st6.trans ?_
    show Steps p.tables e below (T6.setTop (mkF m 30 #[.val (.ref x)] [])) _
    refine XS.aloadN X6.here hx rfl (hb hby d7_30) rfl rfl ?_
    show Steps p.tables e below (T6.setTop (mkF m 31 #[.val (.ref x)] [(.ref x)])) _
    refine st11 _ ?_
    show Steps p.tables e below (T11.setTop (mkF m 34 #[.val (.ref x)] [(.ref x6_0)])) _
    refine X11.arraylength hx (by rw [e11]; exact A12.1) (State.isArrayOf_alike hZ.alike A12.2.1) (g := (mkF m 34 #[.val (.ref x)] [(.ref x6_0)])) rfl rfl (hb hby d7_34) _ ?_
    rw [len_of S12 M12]
    show Steps p.tables e below (T11.setTop (mkF m 35 #[.val (.ref x)] [(.int (mr_cap lim))])) _
    refine XS.aloadN X11.here hx rfl (hb hby d7_35) rfl rfl ?_
    show Steps p.tables e below (T11.setTop (mkF m 36 #[.val (.ref x)] [(.ref x), (.int (mr_cap lim))])) _
    refine st13 _ ?_
    show Steps p.tables e below (T13.setTop (mkF m 39 #[.val (.ref x)] [(.int (0 : Int32)), (.int (mr_cap lim))])) _
    refine XS.isub X13.here hx rfl (hb hby d7_39) rfl ?_
    show Steps p.tables e below (T13.setTop (mkF m 40 #[.val (.ref x)] [(.int ((mr_cap lim) - (0 : Int32)))])) _
    exact retI X13 hx Bd.returns (hb hby d7_40) hr
  · show Q_r2 Z x fl tn lim la kn cK h0 n0 _ T13.heap _
    rw [e13]
    exact ⟨x6_0, x6_1, rfl, Nn6, KK6, p6_0, p6_1, p6_2, p6_3, p6_4, p6_5, p6_6, p6_7, p6_8, p6_9, p6_10⟩
def ln_r (lim : Int32) (pa : Int32) (pb : Int32) : Int32 := ((0 : Int32) - (0 : Int32))
def ln_x (lim : Int32) (pa : Int32) (pb : Int32) : Int32 := ((pa &&& (2147483647 : Int32)) - (pa &&& (2147483647 : Int32)) / ((ln_r lim pa pb) + (1 : Int32)) * ((ln_r lim pa pb) + (1 : Int32)))
def ln_y (lim : Int32) (pa : Int32) (pb : Int32) : Int32 := ((pb &&& (2147483647 : Int32)) - (pb &&& (2147483647 : Int32)) / (((ln_r lim pa pb) - (ln_x lim pa pb)) + (1 : Int32)) * (((ln_r lim pa pb) - (ln_x lim pa pb)) + (1 : Int32)))
def lo_r (lim : Int32) (pa : Int32) (pb : Int32) : Int32 := ((mr_cap lim) - (0 : Int32))
def lo_x (lim : Int32) (pa : Int32) (pb : Int32) : Int32 := ((pa &&& (2147483647 : Int32)) - (pa &&& (2147483647 : Int32)) / ((lo_r lim pa pb) + (1 : Int32)) * ((lo_r lim pa pb) + (1 : Int32)))
def lo_y (lim : Int32) (pa : Int32) (pb : Int32) : Int32 := ((pb &&& (2147483647 : Int32)) - (pb &&& (2147483647 : Int32)) / (((lo_r lim pa pb) - (lo_x lim pa pb)) + (1 : Int32)) * (((lo_r lim pa pb) - (lo_x lim pa pb)) + (1 : Int32)))
def lp_r (lim : Int32) (pa : Int32) (pb : Int32) : Int32 := ((mr_cap lim) - (0 : Int32))
def lp_x (lim : Int32) (pa : Int32) (pb : Int32) : Int32 := ((pa &&& (2147483647 : Int32)) - (pa &&& (2147483647 : Int32)) / ((lp_r lim pa pb) + (1 : Int32)) * ((lp_r lim pa pb) + (1 : Int32)))
def lp_y (lim : Int32) (pa : Int32) (pb : Int32) : Int32 := ((pb &&& (2147483647 : Int32)) - (pb &&& (2147483647 : Int32)) / (((lp_r lim pa pb) - (lp_x lim pa pb)) + (1 : Int32)) * (((lp_r lim pa pb) - (lp_x lim pa pb)) + (1 : Int32)))
theorem own_eqf {a b : Int32} (h : a = b) : if_icmp.holds .ne a b = false := own_f_of (own_c_ne _ _) (fun q => q (by rw [h]))
theorem own_cmp_self {x y : Int64} (h : x = y) : ifCond.holds .ne (XT.cmpL x y) = false := by
  subst h
  refine own_f_of (own_h_ne _) ?_
  rw [own_L, if_neg (Int.lt_irrefl _), if_pos rfl]; exact fun q => q rfl
theorem own_zxy (x y : Int32) : ((0 : Int32) + x) + y = x + y := by rw [Int32.zero_add]
theorem own_cxy (c x y : Int32) : c - (((0 : Int32) + x) + y) = ((c - (0 : Int32)) - x) - y := by
  rw [Int32.zero_add, Int32.sub_zero]
  apply Int32.toBitVec_inj.mp
  rw [Int32.toBitVec_sub, Int32.toBitVec_add, Int32.toBitVec_sub, Int32.toBitVec_sub, BitVec.sub_sub]
theorem own_rN {lim pa pb : Int32} : 0 ≤ (ln_r lim pa pb).toInt ∧ (ln_r lim pa pb).toInt ≤ 8192 := by unfold ln_r; decide
theorem own_rP {lim : Int32} (h : 0 < lim.toInt) : 0 ≤ ((mr_cap lim) - (0 : Int32)).toInt ∧ ((mr_cap lim) - (0 : Int32)).toInt ≤ 8192 := by
  rw [Int32.sub_zero, own_capv]
  split <;> omega
theorem own_a17 {r : Int32} (h : 0 ≤ r.toInt ∧ r.toInt ≤ 8192) : ifCond.holds .lt r = false := own_f_of (own_h_lt _) (by omega)
theorem own_a25 {r : Int32} (h : 0 ≤ r.toInt ∧ r.toInt ≤ 8192) : if_icmp.holds .le r (8192 : Int32) = true := (own_c_le _ _).mpr (by have e : (8192 : Int32).toInt = 8192 := rfl; omega)
theorem own_r1 {r : Int32} (h : 0 ≤ r.toInt ∧ r.toInt ≤ 8192) : (r + (1 : Int32)).toInt = r.toInt + 1 := by
  have e : (1 : Int32).toInt = 1 := rfl
  rw [Int32.toInt_add, e]; exact Jvm.Kit.bmod32 (by omega) (by omega)
theorem own_a50 {r : Int32} (h : 0 ≤ r.toInt ∧ r.toInt ≤ 8192) : r + (1 : Int32) ≠ 0 := own_ne0 (by rw [own_r1 h]; omega)
def own_rem (pa r : Int32) : Int32 := (pa &&& (2147483647 : Int32)) - (pa &&& (2147483647 : Int32)) / (r + (1 : Int32)) * (r + (1 : Int32))
theorem own_remv (pa : Int32) {r : Int32} (h : 0 ≤ r.toInt ∧ r.toInt ≤ 8192) : 0 ≤ (own_rem pa r).toInt ∧ (own_rem pa r).toInt ≤ r.toInt := by
  unfold own_rem
  have m := own_mask31 pa
  rw [own_irem_nn m.1, own_r1 h]
  have h1 := Int.emod_nonneg (pa &&& 2147483647).toInt (by omega : r.toInt + 1 ≠ 0)
  have h2 := Int.emod_lt_of_pos (pa &&& 2147483647).toInt (by omega : 0 < r.toInt + 1)
  omega
theorem own_a64 (pa : Int32) {r : Int32} (h : 0 ≤ r.toInt ∧ r.toInt ≤ 8192) : (r - own_rem pa r) + (1 : Int32) ≠ 0 := by
  have q := own_remv pa h
  have e : (r - own_rem pa r).toInt = r.toInt - (own_rem pa r).toInt := by
    rw [Int32.toInt_sub]; exact Jvm.Kit.bmod32 (by omega) (by omega)
  exact own_a50 (by rw [e]; omega)
theorem own_rem0 (pa : Int32) : (pa &&& (2147483647 : Int32)) - (pa &&& (2147483647 : Int32)) / (1 : Int32) * (1 : Int32) = 0 := by
  apply Int32.toInt_inj.mp
  have e : (1 : Int32).toInt = 1 := rfl
  have e0 : (0 : Int32).toInt = 0 := rfl
  rw [own_irem_nn (own_mask31 pa).1, e, e0]; omega
theorem own_a141 {lim : Int32} (pa pb : Int32) : if_icmp.holds .ge ((ln_x lim pa pb) + (ln_y lim pa pb)) (ln_r lim pa pb) = true := by
  have r0 : ln_r lim pa pb = 0 := by unfold ln_r; decide
  have x0 : ln_x lim pa pb = 0 := by
    unfold ln_x; rw [r0, Int32.zero_add]; exact own_rem0 pa
  have y0 : ln_y lim pa pb = 0 := by
    unfold ln_y; rw [r0, x0, Int32.sub_zero, Int32.zero_add]; exact own_rem0 pb
  rw [r0, x0, y0]; decide
theorem own_a145 {lim pa pb : Int32} (h : if_icmp.holds .ge ((lp_x lim pa pb) + (lp_y lim pa pb)) (lp_r lim pa pb) = false) : if_icmp.holds .ne (((0 : Int32) + (lp_x lim pa pb)) + (lp_y lim pa pb)) (mr_cap lim) = true := by
  have q : ¬ (lp_r lim pa pb).toInt ≤ ((lp_x lim pa pb) + (lp_y lim pa pb)).toInt := fun q => by
    rw [(own_c_ge _ _).mpr q] at h; cases h
  have e : lp_r lim pa pb = mr_cap lim := by unfold lp_r; exact Int32.sub_zero _
  rw [e] at q
  rw [own_zxy]
  exact (own_c_ne _ _).mpr (by omega)
theorem own_len0 {Z : State} {args : Array Value} {t : Term} {a : Addr} {cl : Cell} {ty : FieldType} (A : Arr Z Z.heap a cl ty) (ht : t.eval args Z none [] Z = some (.ref a)) (h : (Term.length t).eval args Z none [] Z = some (.int (0 : Int32))) : cl.slots.size = 0 := by
  have ha : Z.arrayAt? a = some cl := Arr.fin (Vm.Alike.refl _) A
  by_cases hl : cl.slots.size < 2 ^ 31
  · have e := (len_f ht ha hl).symm.trans h
    have e2 : cl.slots.size.toInt32 = 0 := by injection Option.some.inj e
    have e3 := congrArg Int32.toInt e2
    rw [len_toInt hl] at e3
    have e0 : (0 : Int32).toInt = 0 := rfl
    omega
  · simp [Term.eval, ht, ha, hl] at h
theorem ef_ln (m : MethodId) (lim : Int32) (pa : Int32) (pb : Int32) : entryFrame m #[(.int lim), (.int pa), (.int pb)] maxLocals = (mkF m 0 #[.val (.int lim), .val (.int pa), .val (.int pb), .unset, .unset, .unset, .unset, .unset, .unset, .unset, .unset] []) := by first | (simp [entryFrame, mkF, argsToLocals, Value.category, maxLocals]; done) | rfl
def Q_ln (Z : State) (lim : Int32) (pa : Int32) (pb : Int32) (dv : Addr) (tn : Addr) (la : Addr) (cK : ClassId) (kn : ClassId) (h0 : Heap) (n0 : Nat) (v : Option Value) (h : Heap) (L : List Loc) : Prop := v = some (.int 1) ∧ Fr n0 L
set_option maxRecDepth 65536 in
set_option maxHeartbeats 40000000 in
theorem rm_ln (l : Launch) (Z : State) (a0 : Array Value) (hw : ∀ d ∈ tables_1, d.before a0 Z = true) (ws : List Jvm.Cond) (lim : Int32) (pa : Int32) (pb : Int32) (dv : Addr) (tn : Addr) (la : Addr) (cK : ClassId) (kn : ClassId) (h0 : Heap) (n0 : Nat) (Z0 : n0 ≤ h0.size) (k0_ : Old Z n0 h0) (k1_ : Arv Z h0 tn kn .byte (0 : Int32) [] (.int (0 : Int32))) (SD : Sta Z Z.heap "java/util/ArrayList" "DEFAULTCAPACITY_EMPTY_ELEMENTDATA" "[Ljava/lang/Object;" (.ref dv)) (SN : Sta Z Z.heap "com/example/riskloom/riskloom/gateway/http/BodyBuffer" "NONE" "[B" (.ref tn)) (LM : own_Lam Z la cK) (hl : if_icmp.holds .ge (0 : Int32) lim = true)  :
    MetFree l x (head1 (Jvm.Cond.code x code maxLocals ret :: ws) room_1) (fun a U => a = #[(.int lim), (.int pa), (.int pb)] ∧ Z.WarmedH U.vm ∧ U.heap = h0) (fun _ _ _ _ _ => True) (fun _ U o U' => ∃ v L, o = .returned v ∧ Q_ln Z lim pa pb dv tn la cK kn h0 n0 v U'.heap L ∧ FrameEnd U o U' L 16 16512) := by
  refine MetFree.of_bodySF (plainFor_of_name pn_4) hisR ?_
  intro p e s m args below meth c s₁ Bd hml0 hP hK
  obtain ⟨rfl, hZH, hh⟩ := hP
  have hZ := hZH.wide
  have hx := Bd.exec
  have hby := Bd.bytes
  have hml : c.maxLocals = 11 := hml0
  have hown : s.vm.findClass "com/example/riskloom/riskloom/gateway/http/BodyBufferAdvancePinLaw" = some m.cls := findClass_of_methodNamed Bd.named
  have hnm := (name_of_methodNamed Bd.named Bd.method).1
  have X0 : Stand p l e room_1 s m #[(.int lim), (.int pa), (.int pb)] below meth c s₁ [] 0 0 := Stand.of_body Bd
  have e0 : s₁.heap = h0 := by rw [← hh, Bd.state]; rfl
  have N0 := Fr.nil n0
  have pre0 : ∀ t, Steps p.tables e below (s₁.setTop (mkF m 0 #[.val (.int lim), .val (.int pa), .val (.int pb), .unset, .unset, .unset, .unset, .unset, .unset, .unset, .unset] [])) t → Steps p.tables e below (s₁.setTop (entryFrame m #[(.int lim), (.int pa), (.int pb)] maxLocals)) t := fun t k => castTop (ef_ln m lim pa pb) k
  obtain ⟨T1, h1, X1, e1, E1, A1, D1, -, st1⟩ := newO X0 hx hZ hown (hw _ (List.mem_of_getElem? (i := 0) rfl)) (hw _ (List.mem_of_getElem? (i := 1) rfl)) (hw _ (List.mem_of_getElem? (i := 2) rfl)) e0 (g := (mkF m 0 #[.val (.int lim), .val (.int pa), .val (.int pb), .unset, .unset, .unset, .unset, .unset, .unset, .unset, .unset] [])) rfl (hb hby at_0) (by decide) (by decide)
  obtain ⟨ad1, g1⟩ : ∃ z, z = (h0).size := ⟨_, rfl⟩
  rw [← g1] at A1 D1 st1
  have ne_tn_ad1 : tn ≠ ad1 := Nat.ne_of_lt (Nat.lt_of_lt_of_le (k1_.lt) (Nat.le_of_eq g1.symm))
  have q2 : Old Z n0 h1 := (k0_.ext E1)
  have q3 : Arv Z h1 tn kn .byte (0 : Int32) [] (.int (0 : Int32)) := (k1_.ext E1)
  have F1_0 : Fld Z h1 ad1 "com/example/riskloom/riskloom/gateway/http/BodyBuffer" "full" "Ljava/util/List;" .null := (D1 (Or.inr (hw _ (List.mem_of_getElem? (i := 40) rfl))) (ty := (.object "java/util/List")) (by decide))
  have F1_1 : Fld Z h1 ad1 "com/example/riskloom/riskloom/gateway/http/BodyBuffer" "last" "[B" .null := (D1 (Or.inl (hw _ (List.mem_of_getElem? (i := 44) rfl))) (ty := (.array .byte)) (by decide))
  have F1_2 : Fld Z h1 ad1 "com/example/riskloom/riskloom/gateway/http/BodyBuffer" "limit" "I" (.int (0 : Int32)) := (D1 (Or.inr (hw _ (List.mem_of_getElem? (i := 46) rfl))) (ty := .int) (by decide))
  have F1_3 : Fld Z h1 ad1 "com/example/riskloom/riskloom/gateway/http/BodyBuffer" "heap" "Ljava/util/function/IntFunction;" .null := (D1 (Or.inr (hw _ (List.mem_of_getElem? (i := 48) rfl))) (ty := (.object "java/util/function/IntFunction")) (by decide))
  have F1_4 : Fld Z h1 ad1 "com/example/riskloom/riskloom/gateway/http/BodyBuffer" "lastLength" "I" (.int (0 : Int32)) := (D1 (Or.inl (hw _ (List.mem_of_getElem? (i := 55) rfl))) (ty := .int) (by decide))
  have F1_5 : Fld Z h1 ad1 "com/example/riskloom/riskloom/gateway/http/BodyBuffer" "length" "I" (.int (0 : Int32)) := (D1 (Or.inl (hw _ (List.mem_of_getElem? (i := 57) rfl))) (ty := .int) (by decide))
  have F1_6 : Fld Z h1 ad1 "com/example/riskloom/riskloom/gateway/http/BodyBuffer" "heldBytes" "J" (.long (0 : Int64)) := (D1 (Or.inl (hw _ (List.mem_of_getElem? (i := 69) rfl))) (ty := .long) (by decide))
  have Z1 : n0 ≤ h1.size := Nat.le_trans Z0 E1.1
  have gn1 : n0 ≤ ad1 := Nat.le_trans Z0 (Nat.le_of_eq g1.symm)
  obtain ⟨_, _, ⟨T4, L4, k4, n4⟩, -, X4, ⟨Lc4, hQ4, l4, y4, z4⟩, st4⟩ := X1.specialBack hx (y := (⟨"com/example/riskloom/riskloom/gateway/http/BodyBuffer", "<init>", "(I)V"⟩ : MethodName)) rfl hown (mvT hZ (hw _ (List.mem_of_getElem? (i := 3) rfl))) (mvT hZ (hw _ (List.mem_of_getElem? (i := 4) rfl))) (mvT hZ (hw _ (List.mem_of_getElem? (i := 5) rfl))) (by decide) (backOf (W := 1) (rm_bj l Z a0 hw [] ad1 lim dv tn la cK (h1) n0 Z1 A1 F1_0 F1_1 F1_2 F1_3 F1_4 F1_5 F1_6 gn1 q2 SD SN LM) hZ (hw _ (List.mem_of_getElem? (i := 5) rfl)) (hw _ (List.mem_of_getElem? (i := 2) rfl)) (by decide) (by decide)) (g := (mkF m 5 #[.val (.int lim), .val (.int pa), .val (.int pb), .unset, .unset, .unset, .unset, .unset, .unset, .unset, .unset] [(.int lim), (.ref ad1), (.ref ad1)])) rfl (by rw [hml]; rfl) (Steps.refl _) (a := ad1) (argsL := [(.int lim)]) (rest := [(.ref ad1)]) (lenOf pd_6 rfl) rfl (by show 2 * 0 + _ ≤ _; exact Nat.le_of_eq rfl) (hb hby at_5) (fun _ _ => ⟨rfl, e1, (by decide : 1 + 1 ≤ _), (by decide : 7 + 3 ≤ _)⟩)
  dsimp only [Pt.U, Pt.locs, Pt.cells, Pt.slots] at X4 l4 y4 z4 st4 hQ4
  rw [l4, y4, z4] at X4
  replace X4 : Stand _ _ _ _ _ _ _ _ _ _ _ _ 2 10 := X4
  obtain ⟨x4_0, vq4, N4, K4, p4_0, p4_1, p4_2, p4_3, p4_4, p4_5, p4_6, p4_7, p4_8, p4_9, p4_10⟩ := hQ4
  rw [vq4] at st4
  have Nn4 := Fr.app N0 N4
  have q5 : Old Z n0 T4.heap := (q2.keep K4 (allS gn1 all0))
  have q6 : Arv Z T4.heap tn kn .byte (0 : Int32) [] (.int (0 : Int32)) := (q3.keep K4 (fun q => ne_tn_ad1 (List.mem_singleton.mp q)))
  have Z4 : n0 ≤ T4.heap.size := Nat.le_trans Z1 K4.1
  obtain ⟨cq7, kq7, qa7, qb7, qc7⟩ := isOf hZ rfl p4_0
  obtain ⟨_, _, ⟨T7, L7, k7, n7⟩, -, X7, ⟨Lc7, hQ7, l7, y7, z7⟩, st7⟩ := X4.virtualBack hx (y := (⟨"com/example/riskloom/riskloom/gateway/http/BodyBuffer", "room", "()I"⟩ : MethodName)) (z := (⟨"com/example/riskloom/riskloom/gateway/http/BodyBuffer", "room", "()I"⟩ : MethodName)) hown (mvT hZ (hw _ (List.mem_of_getElem? (i := 49) rfl))) (mvT hZ (hw _ (List.mem_of_getElem? (i := 50) rfl))) (notFace_of_selects (args := #[]) (mvT hZ (hw _ (List.mem_of_getElem? (i := 52) rfl)))) (mvT hZ (hw _ (List.mem_of_getElem? (i := 52) rfl))) (mvT hZ (hw _ (List.mem_of_getElem? (i := 51) rfl))) (by decide) (backOf (W := 0) (rm_r1 l Z a0 hw [] ad1 x4_0 tn lim la kn (T4.heap) n0 Z4 p4_0 p4_1 p4_2 p4_3 p4_4 p4_5 p4_6 p4_7 q6 hl) hZ (hw _ (List.mem_of_getElem? (i := 53) rfl)) (hw _ (List.mem_of_getElem? (i := 2) rfl)) (by decide) (by decide)) qa7 qc7 (g := (mkF m 10 #[.val (.int lim), .val (.int pa), .val (.int pb), .val (.ref ad1), .unset, .unset, .unset, .unset, .unset, .unset, .unset] [(.ref ad1)])) rfl (by rw [hml]; rfl) (Steps.refl _) (argsL := []) (rest := []) (lenOf pd_7 rfl) rfl (by show 2 * 0 + _ ≤ _; exact Nat.le_of_eq rfl) (hb hby at_10) (fun _ _ => ⟨rfl, rfl, (by decide : 2 + 0 ≤ _), (by decide : 10 + 0 ≤ _)⟩)
  dsimp only [Pt.U, Pt.locs, Pt.cells, Pt.slots] at X7 l7 y7 z7 st7 hQ7
  rw [l7, y7, z7] at X7
  replace X7 : Stand _ _ _ _ _ _ _ _ _ _ _ _ 2 10 := X7
  obtain ⟨vq7, N7, e7⟩ := hQ7
  rw [vq7] at st7
  have Nn7 := Fr.app Nn4 N7
  obtain ⟨cq8, kq8, qa8, qb8, qc8⟩ := isOf hZ e7 p4_0
  obtain ⟨_, _, ⟨T8, L8, k8, n8⟩, -, X8, ⟨Lc8, hQ8, l8, y8, z8⟩, st8⟩ := X7.virtualBack hx (y := (⟨"com/example/riskloom/riskloom/gateway/http/BodyBuffer", "array", "()[B"⟩ : MethodName)) (z := (⟨"com/example/riskloom/riskloom/gateway/http/BodyBuffer", "array", "()[B"⟩ : MethodName)) hown (mvT hZ (hw _ (List.mem_of_getElem? (i := 58) rfl))) (mvT hZ (hw _ (List.mem_of_getElem? (i := 59) rfl))) (notFace_of_selects (args := #[]) (mvT hZ (hw _ (List.mem_of_getElem? (i := 61) rfl)))) (mvT hZ (hw _ (List.mem_of_getElem? (i := 61) rfl))) (mvT hZ (hw _ (List.mem_of_getElem? (i := 60) rfl))) (by decide) (backOf (W := 0) (rm_arr l Z a0 hw [] ad1 tn (T4.heap) n0 Z4 p4_2 ) hZ (hw _ (List.mem_of_getElem? (i := 62) rfl)) (hw _ (List.mem_of_getElem? (i := 2) rfl)) (by decide) (by decide)) qa8 qc8 (g := (mkF m 31 #[.val (.int lim), .val (.int pa), .val (.int pb), .val (.ref ad1), .val (.int (ln_r lim pa pb)), .unset, .unset, .unset, .unset, .unset, .unset] [(.ref ad1)])) rfl (by rw [hml]; rfl) (Steps.refl _) (argsL := []) (rest := []) (lenOf pd_8 rfl) rfl (by show 2 * 0 + _ ≤ _; exact Nat.le_of_eq rfl) (hb hby at_31) (fun _ _ => ⟨rfl, e7, (by decide : 2 + 0 ≤ _), (by decide : 10 + 0 ≤ _)⟩)
  dsimp only [Pt.U, Pt.locs, Pt.cells, Pt.slots] at X8 l8 y8 z8 st8 hQ8
  rw [l8, y8, z8] at X8
  replace X8 : Stand _ _ _ _ _ _ _ _ _ _ _ _ 2 10 := X8
  obtain ⟨vq8, N8, e8⟩ := hQ8
  rw [vq8] at st8
  have Nn8 := Fr.app Nn7 N8
  obtain ⟨cq9, kq9, qa9, qb9, qc9⟩ := isOf hZ e8 p4_0
  obtain ⟨_, _, ⟨T9, L9, k9, n9⟩, -, X9, ⟨Lc9, hQ9, l9, y9, z9⟩, st9⟩ := X8.virtualBack hx (y := (⟨"com/example/riskloom/riskloom/gateway/http/BodyBuffer", "heldBytes", "()J"⟩ : MethodName)) (z := (⟨"com/example/riskloom/riskloom/gateway/http/BodyBuffer", "heldBytes", "()J"⟩ : MethodName)) hown (mvT hZ (hw _ (List.mem_of_getElem? (i := 63) rfl))) (mvT hZ (hw _ (List.mem_of_getElem? (i := 64) rfl))) (notFace_of_selects (args := #[]) (mvT hZ (hw _ (List.mem_of_getElem? (i := 66) rfl)))) (mvT hZ (hw _ (List.mem_of_getElem? (i := 66) rfl))) (mvT hZ (hw _ (List.mem_of_getElem? (i := 65) rfl))) (by decide) (backOf (W := 0) (rm_held l Z a0 hw [] ad1 (0 : Int64) (T4.heap) n0 Z4 p4_7 ) hZ (hw _ (List.mem_of_getElem? (i := 67) rfl)) (hw _ (List.mem_of_getElem? (i := 2) rfl)) (by decide) (by decide)) qa9 qc9 (g := (mkF m 37 #[.val (.int lim), .val (.int pa), .val (.int pb), .val (.ref ad1), .val (.int (ln_r lim pa pb)), .val (.ref tn), .unset, .unset, .unset, .unset, .unset] [(.ref ad1)])) rfl (by rw [hml]; rfl) (Steps.refl _) (argsL := []) (rest := []) (lenOf pd_9 rfl) rfl (by show 2 * 0 + _ ≤ _; exact Nat.le_of_eq rfl) (hb hby at_37) (fun _ _ => ⟨rfl, e8, (by decide : 2 + 0 ≤ _), (by decide : 10 + 0 ≤ _)⟩)
  dsimp only [Pt.U, Pt.locs, Pt.cells, Pt.slots] at X9 l9 y9 z9 st9 hQ9
  rw [l9, y9, z9] at X9
  replace X9 : Stand _ _ _ _ _ _ _ _ _ _ _ _ 2 10 := X9
  obtain ⟨vq9, N9, e9⟩ := hQ9
  rw [vq9] at st9
  have Nn9 := Fr.app Nn8 N9
  obtain ⟨cq10, kq10, qa10, qb10, qc10⟩ := isOf hZ e9 p4_0
  obtain ⟨_, _, ⟨T10, L10, k10, n10⟩, -, X10, ⟨Lc10, hQ10, l10, y10, z10⟩, st10⟩ := X9.virtualBack hx (y := (⟨"com/example/riskloom/riskloom/gateway/http/BodyBuffer", "advance", "(I)V"⟩ : MethodName)) (z := (⟨"com/example/riskloom/riskloom/gateway/http/BodyBuffer", "advance", "(I)V"⟩ : MethodName)) hown (mvT hZ (hw _ (List.mem_of_getElem? (i := 71) rfl))) (mvT hZ (hw _ (List.mem_of_getElem? (i := 72) rfl))) (notFace_of_selects (args := #[]) (mvT hZ (hw _ (List.mem_of_getElem? (i := 74) rfl)))) (mvT hZ (hw _ (List.mem_of_getElem? (i := 74) rfl))) (mvT hZ (hw _ (List.mem_of_getElem? (i := 73) rfl))) (by decide) (backOf (W := 0) (rm_adv l Z a0 hw [] ad1 (ln_x lim pa pb) x4_0 tn lim la (0 : Int32) (0 : Int32) (0 : Int64) (T4.heap) n0 Z4 p4_0 p4_1 p4_2 p4_3 p4_4 p4_5 p4_6 p4_7 gn1 ) hZ (hw _ (List.mem_of_getElem? (i := 75) rfl)) (hw _ (List.mem_of_getElem? (i := 2) rfl)) (by decide) (by decide)) qa10 qc10 (g := (mkF m 70 #[.val (.int lim), .val (.int pa), .val (.int pb), .val (.ref ad1), .val (.int (ln_r lim pa pb)), .val (.ref tn), .val (.long (0 : Int64)), .second, .val (.int (ln_x lim pa pb)), .val (.int (ln_y lim pa pb)), .unset] [(.int (ln_x lim pa pb)), (.ref ad1)])) rfl (by rw [hml]; rfl) (Steps.refl _) (argsL := [(.int (ln_x lim pa pb))]) (rest := []) (lenOf pd_6 rfl) rfl (by show 2 * 0 + _ ≤ _; exact Nat.le_of_eq rfl) (hb hby at_70) (fun _ _ => ⟨rfl, e9, (by decide : 2 + 0 ≤ _), (by decide : 10 + 0 ≤ _)⟩)
  dsimp only [Pt.U, Pt.locs, Pt.cells, Pt.slots] at X10 l10 y10 z10 st10 hQ10
  rw [l10, y10, z10] at X10
  replace X10 : Stand _ _ _ _ _ _ _ _ _ _ _ _ 2 10 := X10
  obtain ⟨vq10, N10, K10, p10_0, p10_1, p10_2, p10_3, p10_4, p10_5, p10_6, p10_7⟩ := hQ10
  rw [vq10] at st10
  have Nn10 := Fr.app Nn9 N10
  have q11 : Old Z n0 T10.heap := (q5.keep K10 (allS gn1 all0))
  have q12 : Arv Z T10.heap tn kn .byte (0 : Int32) [] (.int (0 : Int32)) := (q6.keep K10 (fun q => ne_tn_ad1 (List.mem_singleton.mp q)))
  have q13 : Exa Z T10.heap x4_0 "java/util/ArrayList" := (p4_8.keep K10)
  have q14 : Fld Z T10.heap x4_0 "java/util/ArrayList" "size" "I" (.int (0 : Int32)) := (p4_9.keep K10 (fun q => p4_10 (List.mem_singleton.mp q)))
  have Z10 : n0 ≤ T10.heap.size := Nat.le_trans Z4 K10.1
  obtain ⟨cq15, kq15, qa15, qb15, qc15⟩ := isOf hZ rfl p10_0
  obtain ⟨_, _, ⟨T15, L15, k15, n15⟩, -, X15, ⟨Lc15, hQ15, l15, y15, z15⟩, st15⟩ := X10.virtualBack hx (y := (⟨"com/example/riskloom/riskloom/gateway/http/BodyBuffer", "advance", "(I)V"⟩ : MethodName)) (z := (⟨"com/example/riskloom/riskloom/gateway/http/BodyBuffer", "advance", "(I)V"⟩ : MethodName)) hown (mvT hZ (hw _ (List.mem_of_getElem? (i := 71) rfl))) (mvT hZ (hw _ (List.mem_of_getElem? (i := 72) rfl))) (notFace_of_selects (args := #[]) (mvT hZ (hw _ (List.mem_of_getElem? (i := 74) rfl)))) (mvT hZ (hw _ (List.mem_of_getElem? (i := 74) rfl))) (mvT hZ (hw _ (List.mem_of_getElem? (i := 73) rfl))) (by decide) (backOf (W := 0) (rm_adv l Z a0 hw [] ad1 (ln_y lim pa pb) x4_0 tn lim la ((0 : Int32) + (ln_x lim pa pb)) ((0 : Int32) + (ln_x lim pa pb)) (0 : Int64) (T10.heap) n0 Z10 p10_0 p10_1 p10_2 p10_3 p10_4 p10_5 p10_6 p10_7 gn1 ) hZ (hw _ (List.mem_of_getElem? (i := 75) rfl)) (hw _ (List.mem_of_getElem? (i := 2) rfl)) (by decide) (by decide)) qa15 qc15 (g := (mkF m 76 #[.val (.int lim), .val (.int pa), .val (.int pb), .val (.ref ad1), .val (.int (ln_r lim pa pb)), .val (.ref tn), .val (.long (0 : Int64)), .second, .val (.int (ln_x lim pa pb)), .val (.int (ln_y lim pa pb)), .unset] [(.int (ln_y lim pa pb)), (.ref ad1)])) rfl (by rw [hml]; rfl) (Steps.refl _) (argsL := [(.int (ln_y lim pa pb))]) (rest := []) (lenOf pd_6 rfl) rfl (by show 2 * 0 + _ ≤ _; exact Nat.le_of_eq rfl) (hb hby at_76) (fun _ _ => ⟨rfl, rfl, (by decide : 2 + 0 ≤ _), (by decide : 10 + 0 ≤ _)⟩)
  dsimp only [Pt.U, Pt.locs, Pt.cells, Pt.slots] at X15 l15 y15 z15 st15 hQ15
  rw [l15, y15, z15] at X15
  replace X15 : Stand _ _ _ _ _ _ _ _ _ _ _ _ 2 10 := X15
  obtain ⟨vq15, N15, K15, p15_0, p15_1, p15_2, p15_3, p15_4, p15_5, p15_6, p15_7⟩ := hQ15
  rw [vq15] at st15
  have Nn15 := Fr.app Nn10 N15
  have q16 : Old Z n0 T15.heap := (q11.keep K15 (allS gn1 all0))
  have q17 : Arv Z T15.heap tn kn .byte (0 : Int32) [] (.int (0 : Int32)) := (q12.keep K15 (fun q => ne_tn_ad1 (List.mem_singleton.mp q)))
  have q18 : Exa Z T15.heap x4_0 "java/util/ArrayList" := (q13.keep K15)
  have q19 : Fld Z T15.heap x4_0 "java/util/ArrayList" "size" "I" (.int (0 : Int32)) := (q14.keep K15 (fun q => p4_10 (List.mem_singleton.mp q)))
  have Z15 : n0 ≤ T15.heap.size := Nat.le_trans Z10 K15.1
  obtain ⟨cq20, kq20, qa20, qb20, qc20⟩ := isOf hZ rfl p15_0
  obtain ⟨_, _, ⟨T20, L20, k20, n20⟩, -, X20, ⟨Lc20, hQ20, l20, y20, z20⟩, st20⟩ := X15.virtualBack hx (y := (⟨"com/example/riskloom/riskloom/gateway/http/BodyBuffer", "position", "()I"⟩ : MethodName)) (z := (⟨"com/example/riskloom/riskloom/gateway/http/BodyBuffer", "position", "()I"⟩ : MethodName)) hown (mvT hZ (hw _ (List.mem_of_getElem? (i := 76) rfl))) (mvT hZ (hw _ (List.mem_of_getElem? (i := 77) rfl))) (notFace_of_selects (args := #[]) (mvT hZ (hw _ (List.mem_of_getElem? (i := 79) rfl)))) (mvT hZ (hw _ (List.mem_of_getElem? (i := 79) rfl))) (mvT hZ (hw _ (List.mem_of_getElem? (i := 78) rfl))) (by decide) (backOf (W := 0) (rm_pos l Z a0 hw [] ad1 (((0 : Int32) + (ln_x lim pa pb)) + (ln_y lim pa pb)) (T15.heap) n0 Z15 p15_5 ) hZ (hw _ (List.mem_of_getElem? (i := 80) rfl)) (hw _ (List.mem_of_getElem? (i := 2) rfl)) (by decide) (by decide)) qa20 qc20 (g := (mkF m 80 #[.val (.int lim), .val (.int pa), .val (.int pb), .val (.ref ad1), .val (.int (ln_r lim pa pb)), .val (.ref tn), .val (.long (0 : Int64)), .second, .val (.int (ln_x lim pa pb)), .val (.int (ln_y lim pa pb)), .unset] [(.ref ad1)])) rfl (by rw [hml]; rfl) (Steps.refl _) (argsL := []) (rest := []) (lenOf pd_7 rfl) rfl (by show 2 * 0 + _ ≤ _; exact Nat.le_of_eq rfl) (hb hby at_80) (fun _ _ => ⟨rfl, rfl, (by decide : 2 + 0 ≤ _), (by decide : 10 + 0 ≤ _)⟩)
  dsimp only [Pt.U, Pt.locs, Pt.cells, Pt.slots] at X20 l20 y20 z20 st20 hQ20
  rw [l20, y20, z20] at X20
  replace X20 : Stand _ _ _ _ _ _ _ _ _ _ _ _ 2 10 := X20
  obtain ⟨vq20, N20, e20⟩ := hQ20
  rw [vq20] at st20
  have Nn20 := Fr.app Nn15 N20
  obtain ⟨cq21, kq21, qa21, qb21, qc21⟩ := isOf hZ e20 p15_0
  obtain ⟨_, _, ⟨T21, L21, k21, n21⟩, -, X21, ⟨Lc21, hQ21, l21, y21, z21⟩, st21⟩ := X20.virtualBack hx (y := (⟨"com/example/riskloom/riskloom/gateway/http/BodyBuffer", "length", "()I"⟩ : MethodName)) (z := (⟨"com/example/riskloom/riskloom/gateway/http/BodyBuffer", "length", "()I"⟩ : MethodName)) hown (mvT hZ (hw _ (List.mem_of_getElem? (i := 81) rfl))) (mvT hZ (hw _ (List.mem_of_getElem? (i := 82) rfl))) (notFace_of_selects (args := #[]) (mvT hZ (hw _ (List.mem_of_getElem? (i := 84) rfl)))) (mvT hZ (hw _ (List.mem_of_getElem? (i := 84) rfl))) (mvT hZ (hw _ (List.mem_of_getElem? (i := 83) rfl))) (by decide) (backOf (W := 0) (rm_len l Z a0 hw [] ad1 (((0 : Int32) + (ln_x lim pa pb)) + (ln_y lim pa pb)) (T15.heap) n0 Z15 p15_6 ) hZ (hw _ (List.mem_of_getElem? (i := 85) rfl)) (hw _ (List.mem_of_getElem? (i := 2) rfl)) (by decide) (by decide)) qa21 qc21 (g := (mkF m 92 #[.val (.int lim), .val (.int pa), .val (.int pb), .val (.ref ad1), .val (.int (ln_r lim pa pb)), .val (.ref tn), .val (.long (0 : Int64)), .second, .val (.int (ln_x lim pa pb)), .val (.int (ln_y lim pa pb)), .unset] [(.ref ad1)])) rfl (by rw [hml]; rfl) (Steps.refl _) (argsL := []) (rest := []) (lenOf pd_7 rfl) rfl (by show 2 * 0 + _ ≤ _; exact Nat.le_of_eq rfl) (hb hby at_92) (fun _ _ => ⟨rfl, e20, (by decide : 2 + 0 ≤ _), (by decide : 10 + 0 ≤ _)⟩)
  dsimp only [Pt.U, Pt.locs, Pt.cells, Pt.slots] at X21 l21 y21 z21 st21 hQ21
  rw [l21, y21, z21] at X21
  replace X21 : Stand _ _ _ _ _ _ _ _ _ _ _ _ 2 10 := X21
  obtain ⟨vq21, N21, e21⟩ := hQ21
  rw [vq21] at st21
  have Nn21 := Fr.app Nn20 N21
  obtain ⟨cq22, kq22, qa22, qb22, qc22⟩ := isOf hZ e21 p15_0
  obtain ⟨_, _, ⟨T22, L22, k22, n22⟩, -, X22, ⟨Lc22, hQ22, l22, y22, z22⟩, st22⟩ := X21.virtualBack hx (y := (⟨"com/example/riskloom/riskloom/gateway/http/BodyBuffer", "array", "()[B"⟩ : MethodName)) (z := (⟨"com/example/riskloom/riskloom/gateway/http/BodyBuffer", "array", "()[B"⟩ : MethodName)) hown (mvT hZ (hw _ (List.mem_of_getElem? (i := 58) rfl))) (mvT hZ (hw _ (List.mem_of_getElem? (i := 59) rfl))) (notFace_of_selects (args := #[]) (mvT hZ (hw _ (List.mem_of_getElem? (i := 61) rfl)))) (mvT hZ (hw _ (List.mem_of_getElem? (i := 61) rfl))) (mvT hZ (hw _ (List.mem_of_getElem? (i := 60) rfl))) (by decide) (backOf (W := 0) (rm_arr l Z a0 hw [] ad1 tn (T15.heap) n0 Z15 p15_2 ) hZ (hw _ (List.mem_of_getElem? (i := 62) rfl)) (hw _ (List.mem_of_getElem? (i := 2) rfl)) (by decide) (by decide)) qa22 qc22 (g := (mkF m 104 #[.val (.int lim), .val (.int pa), .val (.int pb), .val (.ref ad1), .val (.int (ln_r lim pa pb)), .val (.ref tn), .val (.long (0 : Int64)), .second, .val (.int (ln_x lim pa pb)), .val (.int (ln_y lim pa pb)), .unset] [(.ref ad1)])) rfl (by rw [hml]; rfl) (Steps.refl _) (argsL := []) (rest := []) (lenOf pd_8 rfl) rfl (by show 2 * 0 + _ ≤ _; exact Nat.le_of_eq rfl) (hb hby at_104) (fun _ _ => ⟨rfl, e21, (by decide : 2 + 0 ≤ _), (by decide : 10 + 0 ≤ _)⟩)
  dsimp only [Pt.U, Pt.locs, Pt.cells, Pt.slots] at X22 l22 y22 z22 st22 hQ22
  rw [l22, y22, z22] at X22
  replace X22 : Stand _ _ _ _ _ _ _ _ _ _ _ _ 2 10 := X22
  obtain ⟨vq22, N22, e22⟩ := hQ22
  rw [vq22] at st22
  have Nn22 := Fr.app Nn21 N22
  obtain ⟨cq23, kq23, qa23, qb23, qc23⟩ := isOf hZ e22 p15_0
  obtain ⟨_, _, ⟨T23, L23, k23, n23⟩, -, X23, ⟨Lc23, hQ23, l23, y23, z23⟩, st23⟩ := X22.virtualBack hx (y := (⟨"com/example/riskloom/riskloom/gateway/http/BodyBuffer", "heldBytes", "()J"⟩ : MethodName)) (z := (⟨"com/example/riskloom/riskloom/gateway/http/BodyBuffer", "heldBytes", "()J"⟩ : MethodName)) hown (mvT hZ (hw _ (List.mem_of_getElem? (i := 63) rfl))) (mvT hZ (hw _ (List.mem_of_getElem? (i := 64) rfl))) (notFace_of_selects (args := #[]) (mvT hZ (hw _ (List.mem_of_getElem? (i := 66) rfl)))) (mvT hZ (hw _ (List.mem_of_getElem? (i := 66) rfl))) (mvT hZ (hw _ (List.mem_of_getElem? (i := 65) rfl))) (by decide) (backOf (W := 0) (rm_held l Z a0 hw [] ad1 (0 : Int64) (T15.heap) n0 Z15 p15_7 ) hZ (hw _ (List.mem_of_getElem? (i := 67) rfl)) (hw _ (List.mem_of_getElem? (i := 2) rfl)) (by decide) (by decide)) qa23 qc23 (g := (mkF m 113 #[.val (.int lim), .val (.int pa), .val (.int pb), .val (.ref ad1), .val (.int (ln_r lim pa pb)), .val (.ref tn), .val (.long (0 : Int64)), .second, .val (.int (ln_x lim pa pb)), .val (.int (ln_y lim pa pb)), .unset] [(.ref ad1)])) rfl (by rw [hml]; rfl) (Steps.refl _) (argsL := []) (rest := []) (lenOf pd_9 rfl) rfl (by show 2 * 0 + _ ≤ _; exact Nat.le_of_eq rfl) (hb hby at_113) (fun _ _ => ⟨rfl, e22, (by decide : 2 + 0 ≤ _), (by decide : 10 + 0 ≤ _)⟩)
  dsimp only [Pt.U, Pt.locs, Pt.cells, Pt.slots] at X23 l23 y23 z23 st23 hQ23
  rw [l23, y23, z23] at X23
  replace X23 : Stand _ _ _ _ _ _ _ _ _ _ _ _ 2 10 := X23
  obtain ⟨vq23, N23, e23⟩ := hQ23
  rw [vq23] at st23
  have Nn23 := Fr.app Nn22 N23
  obtain ⟨fs, hr, hrun, hended, hW, hsame⟩ := X23.leave (v := some (.int (1 : Int32))) (fun h => by rw [Bd.returns] at h; cases h)
  refine ⟨_, _, pre0 _ ?_, hrun, hended, _, _, rfl, ?_, ⟨_, rfl⟩, hW, hsame.mono (Nat.le_of_ble_eq_true rfl) (Nat.le_of_ble_eq_true rfl)⟩
  · show Steps p.tables e below (s₁.setTop (mkF m 0 #[.val (.int lim), .val (.int pa), .val (.int pb), .unset, .unset, .unset, .unset, .unset, .unset, .unset, .unset] [])) _
    refine st1 _ ?_
    show Steps p.tables e below (T1.setTop (mkF m 3 #[.val (.int lim), .val (.int pa), .val (.int pb), .unset, .unset, .unset, .unset, .unset, .unset, .unset, .unset] [(.ref ad1)])) _
    refine XS.dup X1.here hx rfl (hb hby at_3) rfl rfl ?_
    show Steps p.tables e below (T1.setTop (mkF m 4 #[.val (.int lim), .val (.int pa), .val (.int pb), .unset, .unset, .unset, .unset, .unset, .unset, .unset, .unset] [(.ref ad1), (.ref ad1)])) _
    refine XS.iloadN X1.here hx rfl (hb hby at_4) rfl ?_
    show Steps p.tables e below (T1.setTop (mkF m 5 #[.val (.int lim), .val (.int pa), .val (.int pb), .unset, .unset, .unset, .unset, .unset, .unset, .unset, .unset] [(.int lim), (.ref ad1), (.ref ad1)])) _
    refine st4.trans ?_
    show Steps p.tables e below (T4.setTop (mkF m 8 #[.val (.int lim), .val (.int pa), .val (.int pb), .unset, .unset, .unset, .unset, .unset, .unset, .unset, .unset] [(.ref ad1)])) _
    refine XS.astoreN X4.here hx rfl (hb hby at_8) rfl rfl (l' := #[.val (.int lim), .val (.int pa), .val (.int pb), .val (.ref ad1), .unset, .unset, .unset, .unset, .unset, .unset, .unset]) rfl ?_
    show Steps p.tables e below (T4.setTop (mkF m 9 #[.val (.int lim), .val (.int pa), .val (.int pb), .val (.ref ad1), .unset, .unset, .unset, .unset, .unset, .unset, .unset] [])) _
    refine XS.aloadN X4.here hx rfl (hb hby at_9) rfl rfl ?_
    show Steps p.tables e below (T4.setTop (mkF m 10 #[.val (.int lim), .val (.int pa), .val (.int pb), .val (.ref ad1), .unset, .unset, .unset, .unset, .unset, .unset, .unset] [(.ref ad1)])) _
    refine st7.trans ?_
    show Steps p.tables e below (T7.setTop (mkF m 13 #[.val (.int lim), .val (.int pa), .val (.int pb), .val (.ref ad1), .unset, .unset, .unset, .unset, .unset, .unset, .unset] [(.int ((0 : Int32) - (0 : Int32)))])) _
    refine XS.istore X7.here hx rfl (hb hby at_13) rfl (l' := #[.val (.int lim), .val (.int pa), .val (.int pb), .val (.ref ad1), .val (.int (ln_r lim pa pb)), .unset, .unset, .unset, .unset, .unset, .unset]) rfl ?_
    show Steps p.tables e below (T7.setTop (mkF m 15 #[.val (.int lim), .val (.int pa), .val (.int pb), .val (.ref ad1), .val (.int (ln_r lim pa pb)), .unset, .unset, .unset, .unset, .unset, .unset] [])) _
    refine XS.iload X7.here hx rfl (hb hby at_15) rfl ?_
    show Steps p.tables e below (T7.setTop (mkF m 17 #[.val (.int lim), .val (.int pa), .val (.int pb), .val (.ref ad1), .val (.int (ln_r lim pa pb)), .unset, .unset, .unset, .unset, .unset, .unset] [(.int (ln_r lim pa pb))])) _
    refine XS.ifNo X7.here hx rfl (hb hby at_17) rfl (own_a17 own_rN) ?_
    show Steps p.tables e below (T7.setTop (mkF m 20 #[.val (.int lim), .val (.int pa), .val (.int pb), .val (.ref ad1), .val (.int (ln_r lim pa pb)), .unset, .unset, .unset, .unset, .unset, .unset] [])) _
    refine XS.iload X7.here hx rfl (hb hby at_20) rfl ?_
    show Steps p.tables e below (T7.setTop (mkF m 22 #[.val (.int lim), .val (.int pa), .val (.int pb), .val (.ref ad1), .val (.int (ln_r lim pa pb)), .unset, .unset, .unset, .unset, .unset, .unset] [(.int (ln_r lim pa pb))])) _
    refine XS.sipush X7.here hx rfl (hb hby at_22) ?_
    show Steps p.tables e below (T7.setTop (mkF m 25 #[.val (.int lim), .val (.int pa), .val (.int pb), .val (.ref ad1), .val (.int (ln_r lim pa pb)), .unset, .unset, .unset, .unset, .unset, .unset] [(.int (8192 : Int32)), (.int (ln_r lim pa pb))])) _
    refine XS.icmpYes X7.here hx rfl (pc0 := 25) (pc' := 30) rfl (hb hby at_25) rfl (own_a25 own_rN) (by decide) (by decide) ?_
    show Steps p.tables e below (T7.setTop (mkF m 30 #[.val (.int lim), .val (.int pa), .val (.int pb), .val (.ref ad1), .val (.int (ln_r lim pa pb)), .unset, .unset, .unset, .unset, .unset, .unset] [])) _
    refine XS.aloadN X7.here hx rfl (hb hby at_30) rfl rfl ?_
    show Steps p.tables e below (T7.setTop (mkF m 31 #[.val (.int lim), .val (.int pa), .val (.int pb), .val (.ref ad1), .val (.int (ln_r lim pa pb)), .unset, .unset, .unset, .unset, .unset, .unset] [(.ref ad1)])) _
    refine st8.trans ?_
    show Steps p.tables e below (T8.setTop (mkF m 34 #[.val (.int lim), .val (.int pa), .val (.int pb), .val (.ref ad1), .val (.int (ln_r lim pa pb)), .unset, .unset, .unset, .unset, .unset, .unset] [(.ref tn)])) _
    refine XS.astore X8.here hx rfl (hb hby at_34) rfl rfl (l' := #[.val (.int lim), .val (.int pa), .val (.int pb), .val (.ref ad1), .val (.int (ln_r lim pa pb)), .val (.ref tn), .unset, .unset, .unset, .unset, .unset]) rfl ?_
    show Steps p.tables e below (T8.setTop (mkF m 36 #[.val (.int lim), .val (.int pa), .val (.int pb), .val (.ref ad1), .val (.int (ln_r lim pa pb)), .val (.ref tn), .unset, .unset, .unset, .unset, .unset] [])) _
    refine XS.aloadN X8.here hx rfl (hb hby at_36) rfl rfl ?_
    show Steps p.tables e below (T8.setTop (mkF m 37 #[.val (.int lim), .val (.int pa), .val (.int pb), .val (.ref ad1), .val (.int (ln_r lim pa pb)), .val (.ref tn), .unset, .unset, .unset, .unset, .unset] [(.ref ad1)])) _
    refine st9.trans ?_
    show Steps p.tables e below (T9.setTop (mkF m 40 #[.val (.int lim), .val (.int pa), .val (.int pb), .val (.ref ad1), .val (.int (ln_r lim pa pb)), .val (.ref tn), .unset, .unset, .unset, .unset, .unset] [(.long (0 : Int64))])) _
    refine XT.lstore X9.here hx rfl (hb hby at_40) rfl (l' := #[.val (.int lim), .val (.int pa), .val (.int pb), .val (.ref ad1), .val (.int (ln_r lim pa pb)), .val (.ref tn), .val (.long (0 : Int64)), .second, .unset, .unset, .unset]) rfl ?_
    show Steps p.tables e below (T9.setTop (mkF m 42 #[.val (.int lim), .val (.int pa), .val (.int pb), .val (.ref ad1), .val (.int (ln_r lim pa pb)), .val (.ref tn), .val (.long (0 : Int64)), .second, .unset, .unset, .unset] [])) _
    refine XS.iloadN X9.here hx rfl (hb hby at_42) rfl ?_
    show Steps p.tables e below (T9.setTop (mkF m 43 #[.val (.int lim), .val (.int pa), .val (.int pb), .val (.ref ad1), .val (.int (ln_r lim pa pb)), .val (.ref tn), .val (.long (0 : Int64)), .second, .unset, .unset, .unset] [(.int pa)])) _
    refine X9.ldcI hx hown (mvT hZ (hw _ (List.mem_of_getElem? (i := 70) rfl))) (g := (mkF m 43 #[.val (.int lim), .val (.int pa), .val (.int pb), .val (.ref ad1), .val (.int (ln_r lim pa pb)), .val (.ref tn), .val (.long (0 : Int64)), .second, .unset, .unset, .unset] [(.int pa)])) rfl (hb hby at_43) ?_
    show Steps p.tables e below (T9.setTop (mkF m 45 #[.val (.int lim), .val (.int pa), .val (.int pb), .val (.ref ad1), .val (.int (ln_r lim pa pb)), .val (.ref tn), .val (.long (0 : Int64)), .second, .unset, .unset, .unset] [(.int (2147483647 : Int32)), (.int pa)])) _
    refine XS.iand X9.here hx rfl (hb hby at_45) rfl ?_
    show Steps p.tables e below (T9.setTop (mkF m 46 #[.val (.int lim), .val (.int pa), .val (.int pb), .val (.ref ad1), .val (.int (ln_r lim pa pb)), .val (.ref tn), .val (.long (0 : Int64)), .second, .unset, .unset, .unset] [(.int (pa &&& (2147483647 : Int32)))])) _
    refine XS.iload X9.here hx rfl (hb hby at_46) rfl ?_
    show Steps p.tables e below (T9.setTop (mkF m 48 #[.val (.int lim), .val (.int pa), .val (.int pb), .val (.ref ad1), .val (.int (ln_r lim pa pb)), .val (.ref tn), .val (.long (0 : Int64)), .second, .unset, .unset, .unset] [(.int (ln_r lim pa pb)), (.int (pa &&& (2147483647 : Int32)))])) _
    refine XS.iconst X9.here hx rfl (hb hby at_48) ?_
    show Steps p.tables e below (T9.setTop (mkF m 49 #[.val (.int lim), .val (.int pa), .val (.int pb), .val (.ref ad1), .val (.int (ln_r lim pa pb)), .val (.ref tn), .val (.long (0 : Int64)), .second, .unset, .unset, .unset] [(.int (1 : Int32)), (.int (ln_r lim pa pb)), (.int (pa &&& (2147483647 : Int32)))])) _
    refine XS.iadd X9.here hx rfl (hb hby at_49) rfl ?_
    show Steps p.tables e below (T9.setTop (mkF m 50 #[.val (.int lim), .val (.int pa), .val (.int pb), .val (.ref ad1), .val (.int (ln_r lim pa pb)), .val (.ref tn), .val (.long (0 : Int64)), .second, .unset, .unset, .unset] [(.int ((ln_r lim pa pb) + (1 : Int32))), (.int (pa &&& (2147483647 : Int32)))])) _
    refine XS.irem X9.here hx rfl (hb hby at_50) rfl (own_a50 own_rN) ?_
    show Steps p.tables e below (T9.setTop (mkF m 51 #[.val (.int lim), .val (.int pa), .val (.int pb), .val (.ref ad1), .val (.int (ln_r lim pa pb)), .val (.ref tn), .val (.long (0 : Int64)), .second, .unset, .unset, .unset] [(.int ((pa &&& (2147483647 : Int32)) - (pa &&& (2147483647 : Int32)) / ((ln_r lim pa pb) + (1 : Int32)) * ((ln_r lim pa pb) + (1 : Int32))))])) _
    refine XS.istore X9.here hx rfl (hb hby at_51) rfl (l' := #[.val (.int lim), .val (.int pa), .val (.int pb), .val (.ref ad1), .val (.int (ln_r lim pa pb)), .val (.ref tn), .val (.long (0 : Int64)), .second, .val (.int (ln_x lim pa pb)), .unset, .unset]) rfl ?_
    show Steps p.tables e below (T9.setTop (mkF m 53 #[.val (.int lim), .val (.int pa), .val (.int pb), .val (.ref ad1), .val (.int (ln_r lim pa pb)), .val (.ref tn), .val (.long (0 : Int64)), .second, .val (.int (ln_x lim pa pb)), .unset, .unset] [])) _
    refine XS.iloadN X9.here hx rfl (hb hby at_53) rfl ?_
    show Steps p.tables e below (T9.setTop (mkF m 54 #[.val (.int lim), .val (.int pa), .val (.int pb), .val (.ref ad1), .val (.int (ln_r lim pa pb)), .val (.ref tn), .val (.long (0 : Int64)), .second, .val (.int (ln_x lim pa pb)), .unset, .unset] [(.int pb)])) _
    refine X9.ldcI hx hown (mvT hZ (hw _ (List.mem_of_getElem? (i := 70) rfl))) (g := (mkF m 54 #[.val (.int lim), .val (.int pa), .val (.int pb), .val (.ref ad1), .val (.int (ln_r lim pa pb)), .val (.ref tn), .val (.long (0 : Int64)), .second, .val (.int (ln_x lim pa pb)), .unset, .unset] [(.int pb)])) rfl (hb hby at_54) ?_
    show Steps p.tables e below (T9.setTop (mkF m 56 #[.val (.int lim), .val (.int pa), .val (.int pb), .val (.ref ad1), .val (.int (ln_r lim pa pb)), .val (.ref tn), .val (.long (0 : Int64)), .second, .val (.int (ln_x lim pa pb)), .unset, .unset] [(.int (2147483647 : Int32)), (.int pb)])) _
    refine XS.iand X9.here hx rfl (hb hby at_56) rfl ?_
    show Steps p.tables e below (T9.setTop (mkF m 57 #[.val (.int lim), .val (.int pa), .val (.int pb), .val (.ref ad1), .val (.int (ln_r lim pa pb)), .val (.ref tn), .val (.long (0 : Int64)), .second, .val (.int (ln_x lim pa pb)), .unset, .unset] [(.int (pb &&& (2147483647 : Int32)))])) _
    refine XS.iload X9.here hx rfl (hb hby at_57) rfl ?_
    show Steps p.tables e below (T9.setTop (mkF m 59 #[.val (.int lim), .val (.int pa), .val (.int pb), .val (.ref ad1), .val (.int (ln_r lim pa pb)), .val (.ref tn), .val (.long (0 : Int64)), .second, .val (.int (ln_x lim pa pb)), .unset, .unset] [(.int (ln_r lim pa pb)), (.int (pb &&& (2147483647 : Int32)))])) _
    refine XS.iload X9.here hx rfl (hb hby at_59) rfl ?_
    show Steps p.tables e below (T9.setTop (mkF m 61 #[.val (.int lim), .val (.int pa), .val (.int pb), .val (.ref ad1), .val (.int (ln_r lim pa pb)), .val (.ref tn), .val (.long (0 : Int64)), .second, .val (.int (ln_x lim pa pb)), .unset, .unset] [(.int (ln_x lim pa pb)), (.int (ln_r lim pa pb)), (.int (pb &&& (2147483647 : Int32)))])) _
    refine XS.isub X9.here hx rfl (hb hby at_61) rfl ?_
    show Steps p.tables e below (T9.setTop (mkF m 62 #[.val (.int lim), .val (.int pa), .val (.int pb), .val (.ref ad1), .val (.int (ln_r lim pa pb)), .val (.ref tn), .val (.long (0 : Int64)), .second, .val (.int (ln_x lim pa pb)), .unset, .unset] [(.int ((ln_r lim pa pb) - (ln_x lim pa pb))), (.int (pb &&& (2147483647 : Int32)))])) _
    refine XS.iconst X9.here hx rfl (hb hby at_62) ?_
    show Steps p.tables e below (T9.setTop (mkF m 63 #[.val (.int lim), .val (.int pa), .val (.int pb), .val (.ref ad1), .val (.int (ln_r lim pa pb)), .val (.ref tn), .val (.long (0 : Int64)), .second, .val (.int (ln_x lim pa pb)), .unset, .unset] [(.int (1 : Int32)), (.int ((ln_r lim pa pb) - (ln_x lim pa pb))), (.int (pb &&& (2147483647 : Int32)))])) _
    refine XS.iadd X9.here hx rfl (hb hby at_63) rfl ?_
    show Steps p.tables e below (T9.setTop (mkF m 64 #[.val (.int lim), .val (.int pa), .val (.int pb), .val (.ref ad1), .val (.int (ln_r lim pa pb)), .val (.ref tn), .val (.long (0 : Int64)), .second, .val (.int (ln_x lim pa pb)), .unset, .unset] [(.int (((ln_r lim pa pb) - (ln_x lim pa pb)) + (1 : Int32))), (.int (pb &&& (2147483647 : Int32)))])) _
    refine XS.irem X9.here hx rfl (hb hby at_64) rfl (own_a64 pa own_rN) ?_
    show Steps p.tables e below (T9.setTop (mkF m 65 #[.val (.int lim), .val (.int pa), .val (.int pb), .val (.ref ad1), .val (.int (ln_r lim pa pb)), .val (.ref tn), .val (.long (0 : Int64)), .second, .val (.int (ln_x lim pa pb)), .unset, .unset] [(.int ((pb &&& (2147483647 : Int32)) - (pb &&& (2147483647 : Int32)) / (((ln_r lim pa pb) - (ln_x lim pa pb)) + (1 : Int32)) * (((ln_r lim pa pb) - (ln_x lim pa pb)) + (1 : Int32))))])) _
    refine XS.istore X9.here hx rfl (hb hby at_65) rfl (l' := #[.val (.int lim), .val (.int pa), .val (.int pb), .val (.ref ad1), .val (.int (ln_r lim pa pb)), .val (.ref tn), .val (.long (0 : Int64)), .second, .val (.int (ln_x lim pa pb)), .val (.int (ln_y lim pa pb)), .unset]) rfl ?_
    show Steps p.tables e below (T9.setTop (mkF m 67 #[.val (.int lim), .val (.int pa), .val (.int pb), .val (.ref ad1), .val (.int (ln_r lim pa pb)), .val (.ref tn), .val (.long (0 : Int64)), .second, .val (.int (ln_x lim pa pb)), .val (.int (ln_y lim pa pb)), .unset] [])) _
    refine XS.aloadN X9.here hx rfl (hb hby at_67) rfl rfl ?_
    show Steps p.tables e below (T9.setTop (mkF m 68 #[.val (.int lim), .val (.int pa), .val (.int pb), .val (.ref ad1), .val (.int (ln_r lim pa pb)), .val (.ref tn), .val (.long (0 : Int64)), .second, .val (.int (ln_x lim pa pb)), .val (.int (ln_y lim pa pb)), .unset] [(.ref ad1)])) _
    refine XS.iload X9.here hx rfl (hb hby at_68) rfl ?_
    show Steps p.tables e below (T9.setTop (mkF m 70 #[.val (.int lim), .val (.int pa), .val (.int pb), .val (.ref ad1), .val (.int (ln_r lim pa pb)), .val (.ref tn), .val (.long (0 : Int64)), .second, .val (.int (ln_x lim pa pb)), .val (.int (ln_y lim pa pb)), .unset] [(.int (ln_x lim pa pb)), (.ref ad1)])) _
    refine st10.trans ?_
    show Steps p.tables e below (T10.setTop (mkF m 73 #[.val (.int lim), .val (.int pa), .val (.int pb), .val (.ref ad1), .val (.int (ln_r lim pa pb)), .val (.ref tn), .val (.long (0 : Int64)), .second, .val (.int (ln_x lim pa pb)), .val (.int (ln_y lim pa pb)), .unset] [])) _
    refine XS.aloadN X10.here hx rfl (hb hby at_73) rfl rfl ?_
    show Steps p.tables e below (T10.setTop (mkF m 74 #[.val (.int lim), .val (.int pa), .val (.int pb), .val (.ref ad1), .val (.int (ln_r lim pa pb)), .val (.ref tn), .val (.long (0 : Int64)), .second, .val (.int (ln_x lim pa pb)), .val (.int (ln_y lim pa pb)), .unset] [(.ref ad1)])) _
    refine XS.iload X10.here hx rfl (hb hby at_74) rfl ?_
    show Steps p.tables e below (T10.setTop (mkF m 76 #[.val (.int lim), .val (.int pa), .val (.int pb), .val (.ref ad1), .val (.int (ln_r lim pa pb)), .val (.ref tn), .val (.long (0 : Int64)), .second, .val (.int (ln_x lim pa pb)), .val (.int (ln_y lim pa pb)), .unset] [(.int (ln_y lim pa pb)), (.ref ad1)])) _
    refine st15.trans ?_
    show Steps p.tables e below (T15.setTop (mkF m 79 #[.val (.int lim), .val (.int pa), .val (.int pb), .val (.ref ad1), .val (.int (ln_r lim pa pb)), .val (.ref tn), .val (.long (0 : Int64)), .second, .val (.int (ln_x lim pa pb)), .val (.int (ln_y lim pa pb)), .unset] [])) _
    refine XS.aloadN X15.here hx rfl (hb hby at_79) rfl rfl ?_
    show Steps p.tables e below (T15.setTop (mkF m 80 #[.val (.int lim), .val (.int pa), .val (.int pb), .val (.ref ad1), .val (.int (ln_r lim pa pb)), .val (.ref tn), .val (.long (0 : Int64)), .second, .val (.int (ln_x lim pa pb)), .val (.int (ln_y lim pa pb)), .unset] [(.ref ad1)])) _
    refine st20.trans ?_
    show Steps p.tables e below (T20.setTop (mkF m 83 #[.val (.int lim), .val (.int pa), .val (.int pb), .val (.ref ad1), .val (.int (ln_r lim pa pb)), .val (.ref tn), .val (.long (0 : Int64)), .second, .val (.int (ln_x lim pa pb)), .val (.int (ln_y lim pa pb)), .unset] [(.int (((0 : Int32) + (ln_x lim pa pb)) + (ln_y lim pa pb)))])) _
    refine XS.iload X20.here hx rfl (hb hby at_83) rfl ?_
    show Steps p.tables e below (T20.setTop (mkF m 85 #[.val (.int lim), .val (.int pa), .val (.int pb), .val (.ref ad1), .val (.int (ln_r lim pa pb)), .val (.ref tn), .val (.long (0 : Int64)), .second, .val (.int (ln_x lim pa pb)), .val (.int (ln_y lim pa pb)), .unset] [(.int (ln_x lim pa pb)), (.int (((0 : Int32) + (ln_x lim pa pb)) + (ln_y lim pa pb)))])) _
    refine XS.iload X20.here hx rfl (hb hby at_85) rfl ?_
    show Steps p.tables e below (T20.setTop (mkF m 87 #[.val (.int lim), .val (.int pa), .val (.int pb), .val (.ref ad1), .val (.int (ln_r lim pa pb)), .val (.ref tn), .val (.long (0 : Int64)), .second, .val (.int (ln_x lim pa pb)), .val (.int (ln_y lim pa pb)), .unset] [(.int (ln_y lim pa pb)), (.int (ln_x lim pa pb)), (.int (((0 : Int32) + (ln_x lim pa pb)) + (ln_y lim pa pb)))])) _
    refine XS.iadd X20.here hx rfl (hb hby at_87) rfl ?_
    show Steps p.tables e below (T20.setTop (mkF m 88 #[.val (.int lim), .val (.int pa), .val (.int pb), .val (.ref ad1), .val (.int (ln_r lim pa pb)), .val (.ref tn), .val (.long (0 : Int64)), .second, .val (.int (ln_x lim pa pb)), .val (.int (ln_y lim pa pb)), .unset] [(.int ((ln_x lim pa pb) + (ln_y lim pa pb))), (.int (((0 : Int32) + (ln_x lim pa pb)) + (ln_y lim pa pb)))])) _
    refine XS.icmpNo X20.here hx rfl (hb hby at_88) rfl (own_eqf (own_zxy _ _)) ?_
    show Steps p.tables e below (T20.setTop (mkF m 91 #[.val (.int lim), .val (.int pa), .val (.int pb), .val (.ref ad1), .val (.int (ln_r lim pa pb)), .val (.ref tn), .val (.long (0 : Int64)), .second, .val (.int (ln_x lim pa pb)), .val (.int (ln_y lim pa pb)), .unset] [])) _
    refine XS.aloadN X20.here hx rfl (hb hby at_91) rfl rfl ?_
    show Steps p.tables e below (T20.setTop (mkF m 92 #[.val (.int lim), .val (.int pa), .val (.int pb), .val (.ref ad1), .val (.int (ln_r lim pa pb)), .val (.ref tn), .val (.long (0 : Int64)), .second, .val (.int (ln_x lim pa pb)), .val (.int (ln_y lim pa pb)), .unset] [(.ref ad1)])) _
    refine st21.trans ?_
    show Steps p.tables e below (T21.setTop (mkF m 95 #[.val (.int lim), .val (.int pa), .val (.int pb), .val (.ref ad1), .val (.int (ln_r lim pa pb)), .val (.ref tn), .val (.long (0 : Int64)), .second, .val (.int (ln_x lim pa pb)), .val (.int (ln_y lim pa pb)), .unset] [(.int (((0 : Int32) + (ln_x lim pa pb)) + (ln_y lim pa pb)))])) _
    refine XS.iload X21.here hx rfl (hb hby at_95) rfl ?_
    show Steps p.tables e below (T21.setTop (mkF m 97 #[.val (.int lim), .val (.int pa), .val (.int pb), .val (.ref ad1), .val (.int (ln_r lim pa pb)), .val (.ref tn), .val (.long (0 : Int64)), .second, .val (.int (ln_x lim pa pb)), .val (.int (ln_y lim pa pb)), .unset] [(.int (ln_x lim pa pb)), (.int (((0 : Int32) + (ln_x lim pa pb)) + (ln_y lim pa pb)))])) _
    refine XS.iload X21.here hx rfl (hb hby at_97) rfl ?_
    show Steps p.tables e below (T21.setTop (mkF m 99 #[.val (.int lim), .val (.int pa), .val (.int pb), .val (.ref ad1), .val (.int (ln_r lim pa pb)), .val (.ref tn), .val (.long (0 : Int64)), .second, .val (.int (ln_x lim pa pb)), .val (.int (ln_y lim pa pb)), .unset] [(.int (ln_y lim pa pb)), (.int (ln_x lim pa pb)), (.int (((0 : Int32) + (ln_x lim pa pb)) + (ln_y lim pa pb)))])) _
    refine XS.iadd X21.here hx rfl (hb hby at_99) rfl ?_
    show Steps p.tables e below (T21.setTop (mkF m 100 #[.val (.int lim), .val (.int pa), .val (.int pb), .val (.ref ad1), .val (.int (ln_r lim pa pb)), .val (.ref tn), .val (.long (0 : Int64)), .second, .val (.int (ln_x lim pa pb)), .val (.int (ln_y lim pa pb)), .unset] [(.int ((ln_x lim pa pb) + (ln_y lim pa pb))), (.int (((0 : Int32) + (ln_x lim pa pb)) + (ln_y lim pa pb)))])) _
    refine XS.icmpNo X21.here hx rfl (hb hby at_100) rfl (own_eqf (own_zxy _ _)) ?_
    show Steps p.tables e below (T21.setTop (mkF m 103 #[.val (.int lim), .val (.int pa), .val (.int pb), .val (.ref ad1), .val (.int (ln_r lim pa pb)), .val (.ref tn), .val (.long (0 : Int64)), .second, .val (.int (ln_x lim pa pb)), .val (.int (ln_y lim pa pb)), .unset] [])) _
    refine XS.aloadN X21.here hx rfl (hb hby at_103) rfl rfl ?_
    show Steps p.tables e below (T21.setTop (mkF m 104 #[.val (.int lim), .val (.int pa), .val (.int pb), .val (.ref ad1), .val (.int (ln_r lim pa pb)), .val (.ref tn), .val (.long (0 : Int64)), .second, .val (.int (ln_x lim pa pb)), .val (.int (ln_y lim pa pb)), .unset] [(.ref ad1)])) _
    refine st22.trans ?_
    show Steps p.tables e below (T22.setTop (mkF m 107 #[.val (.int lim), .val (.int pa), .val (.int pb), .val (.ref ad1), .val (.int (ln_r lim pa pb)), .val (.ref tn), .val (.long (0 : Int64)), .second, .val (.int (ln_x lim pa pb)), .val (.int (ln_y lim pa pb)), .unset] [(.ref tn)])) _
    refine XS.aload X22.here hx rfl (hb hby at_107) rfl rfl ?_
    show Steps p.tables e below (T22.setTop (mkF m 109 #[.val (.int lim), .val (.int pa), .val (.int pb), .val (.ref ad1), .val (.int (ln_r lim pa pb)), .val (.ref tn), .val (.long (0 : Int64)), .second, .val (.int (ln_x lim pa pb)), .val (.int (ln_y lim pa pb)), .unset] [(.ref tn), (.ref tn)])) _
    refine XT.acmpNo X22.here hx rfl (hb hby at_109) rfl rfl rfl (by simp [XT.acmp]) ?_
    show Steps p.tables e below (T22.setTop (mkF m 112 #[.val (.int lim), .val (.int pa), .val (.int pb), .val (.ref ad1), .val (.int (ln_r lim pa pb)), .val (.ref tn), .val (.long (0 : Int64)), .second, .val (.int (ln_x lim pa pb)), .val (.int (ln_y lim pa pb)), .unset] [])) _
    refine XS.aloadN X22.here hx rfl (hb hby at_112) rfl rfl ?_
    show Steps p.tables e below (T22.setTop (mkF m 113 #[.val (.int lim), .val (.int pa), .val (.int pb), .val (.ref ad1), .val (.int (ln_r lim pa pb)), .val (.ref tn), .val (.long (0 : Int64)), .second, .val (.int (ln_x lim pa pb)), .val (.int (ln_y lim pa pb)), .unset] [(.ref ad1)])) _
    refine st23.trans ?_
    show Steps p.tables e below (T23.setTop (mkF m 116 #[.val (.int lim), .val (.int pa), .val (.int pb), .val (.ref ad1), .val (.int (ln_r lim pa pb)), .val (.ref tn), .val (.long (0 : Int64)), .second, .val (.int (ln_x lim pa pb)), .val (.int (ln_y lim pa pb)), .unset] [(.long (0 : Int64))])) _
    refine XT.lload X23.here hx rfl (hb hby at_116) rfl ?_
    show Steps p.tables e below (T23.setTop (mkF m 118 #[.val (.int lim), .val (.int pa), .val (.int pb), .val (.ref ad1), .val (.int (ln_r lim pa pb)), .val (.ref tn), .val (.long (0 : Int64)), .second, .val (.int (ln_x lim pa pb)), .val (.int (ln_y lim pa pb)), .unset] [(.long (0 : Int64)), (.long (0 : Int64))])) _
    refine XT.lcmp X23.here hx rfl (hb hby at_118) rfl ?_
    show Steps p.tables e below (T23.setTop (mkF m 119 #[.val (.int lim), .val (.int pa), .val (.int pb), .val (.ref ad1), .val (.int (ln_r lim pa pb)), .val (.ref tn), .val (.long (0 : Int64)), .second, .val (.int (ln_x lim pa pb)), .val (.int (ln_y lim pa pb)), .unset] [(.int (XT.cmpL (0 : Int64) (0 : Int64)))])) _
    refine XS.ifNo X23.here hx rfl (hb hby at_119) rfl (own_cmp_self rfl) ?_
    show Steps p.tables e below (T23.setTop (mkF m 122 #[.val (.int lim), .val (.int pa), .val (.int pb), .val (.ref ad1), .val (.int (ln_r lim pa pb)), .val (.ref tn), .val (.long (0 : Int64)), .second, .val (.int (ln_x lim pa pb)), .val (.int (ln_y lim pa pb)), .unset] [])) _
    refine XS.iconst X23.here hx rfl (hb hby at_122) ?_
    show Steps p.tables e below (T23.setTop (mkF m 123 #[.val (.int lim), .val (.int pa), .val (.int pb), .val (.ref ad1), .val (.int (ln_r lim pa pb)), .val (.ref tn), .val (.long (0 : Int64)), .second, .val (.int (ln_x lim pa pb)), .val (.int (ln_y lim pa pb)), .unset] [(.int (1 : Int32))])) _
    refine XS.goto X23.here hx rfl (pc0 := 123) (pc' := 127) rfl (hb hby at_123) (by decide) (by decide) ?_
    show Steps p.tables e below (T23.setTop (mkF m 127 #[.val (.int lim), .val (.int pa), .val (.int pb), .val (.ref ad1), .val (.int (ln_r lim pa pb)), .val (.ref tn), .val (.long (0 : Int64)), .second, .val (.int (ln_x lim pa pb)), .val (.int (ln_y lim pa pb)), .unset] [(.int (1 : Int32))])) _
    refine XS.istore X23.here hx rfl (hb hby at_127) rfl (l' := #[.val (.int lim), .val (.int pa), .val (.int pb), .val (.ref ad1), .val (.int (ln_r lim pa pb)), .val (.ref tn), .val (.long (0 : Int64)), .second, .val (.int (ln_x lim pa pb)), .val (.int (ln_y lim pa pb)), .val (.int (1 : Int32))]) rfl ?_
    show Steps p.tables e below (T23.setTop (mkF m 129 #[.val (.int lim), .val (.int pa), .val (.int pb), .val (.ref ad1), .val (.int (ln_r lim pa pb)), .val (.ref tn), .val (.long (0 : Int64)), .second, .val (.int (ln_x lim pa pb)), .val (.int (ln_y lim pa pb)), .val (.int (1 : Int32))] [])) _
    refine XS.iload X23.here hx rfl (hb hby at_129) rfl ?_
    show Steps p.tables e below (T23.setTop (mkF m 131 #[.val (.int lim), .val (.int pa), .val (.int pb), .val (.ref ad1), .val (.int (ln_r lim pa pb)), .val (.ref tn), .val (.long (0 : Int64)), .second, .val (.int (ln_x lim pa pb)), .val (.int (ln_y lim pa pb)), .val (.int (1 : Int32))] [(.int (1 : Int32))])) _
    refine XS.ifNo X23.here hx rfl (hb hby at_131) rfl rfl ?_
    show Steps p.tables e below (T23.setTop (mkF m 134 #[.val (.int lim), .val (.int pa), .val (.int pb), .val (.ref ad1), .val (.int (ln_r lim pa pb)), .val (.ref tn), .val (.long (0 : Int64)), .second, .val (.int (ln_x lim pa pb)), .val (.int (ln_y lim pa pb)), .val (.int (1 : Int32))] [])) _
    refine XS.iload X23.here hx rfl (hb hby at_134) rfl ?_
    show Steps p.tables e below (T23.setTop (mkF m 136 #[.val (.int lim), .val (.int pa), .val (.int pb), .val (.ref ad1), .val (.int (ln_r lim pa pb)), .val (.ref tn), .val (.long (0 : Int64)), .second, .val (.int (ln_x lim pa pb)), .val (.int (ln_y lim pa pb)), .val (.int (1 : Int32))] [(.int (ln_x lim pa pb))])) _
    refine XS.iload X23.here hx rfl (hb hby at_136) rfl ?_
    show Steps p.tables e below (T23.setTop (mkF m 138 #[.val (.int lim), .val (.int pa), .val (.int pb), .val (.ref ad1), .val (.int (ln_r lim pa pb)), .val (.ref tn), .val (.long (0 : Int64)), .second, .val (.int (ln_x lim pa pb)), .val (.int (ln_y lim pa pb)), .val (.int (1 : Int32))] [(.int (ln_y lim pa pb)), (.int (ln_x lim pa pb))])) _
    refine XS.iadd X23.here hx rfl (hb hby at_138) rfl ?_
    show Steps p.tables e below (T23.setTop (mkF m 139 #[.val (.int lim), .val (.int pa), .val (.int pb), .val (.ref ad1), .val (.int (ln_r lim pa pb)), .val (.ref tn), .val (.long (0 : Int64)), .second, .val (.int (ln_x lim pa pb)), .val (.int (ln_y lim pa pb)), .val (.int (1 : Int32))] [(.int ((ln_x lim pa pb) + (ln_y lim pa pb)))])) _
    refine XS.iload X23.here hx rfl (hb hby at_139) rfl ?_
    show Steps p.tables e below (T23.setTop (mkF m 141 #[.val (.int lim), .val (.int pa), .val (.int pb), .val (.ref ad1), .val (.int (ln_r lim pa pb)), .val (.ref tn), .val (.long (0 : Int64)), .second, .val (.int (ln_x lim pa pb)), .val (.int (ln_y lim pa pb)), .val (.int (1 : Int32))] [(.int (ln_r lim pa pb)), (.int ((ln_x lim pa pb) + (ln_y lim pa pb)))])) _
    refine XS.icmpYes X23.here hx rfl (pc0 := 141) (pc' := 166) rfl (hb hby at_141) rfl (own_a141 pa pb) (by decide) (by decide) ?_
    show Steps p.tables e below (T23.setTop (mkF m 166 #[.val (.int lim), .val (.int pa), .val (.int pb), .val (.ref ad1), .val (.int (ln_r lim pa pb)), .val (.ref tn), .val (.long (0 : Int64)), .second, .val (.int (ln_x lim pa pb)), .val (.int (ln_y lim pa pb)), .val (.int (1 : Int32))] [])) _
    refine XS.iload X23.here hx rfl (hb hby at_166) rfl ?_
    show Steps p.tables e below (T23.setTop (mkF m 168 #[.val (.int lim), .val (.int pa), .val (.int pb), .val (.ref ad1), .val (.int (ln_r lim pa pb)), .val (.ref tn), .val (.long (0 : Int64)), .second, .val (.int (ln_x lim pa pb)), .val (.int (ln_y lim pa pb)), .val (.int (1 : Int32))] [(.int (1 : Int32))])) _
    exact retN X23 hx (t := .boolean) Bd.returns (by simp) (hb hby at_168) hr
  · show Q_ln Z lim pa pb dv tn la cK kn h0 n0 _ T23.heap _
    exact ⟨rfl, Nn23⟩
theorem ef_lo (m : MethodId) (lim : Int32) (pa : Int32) (pb : Int32) : entryFrame m #[(.int lim), (.int pa), (.int pb)] maxLocals = (mkF m 0 #[.val (.int lim), .val (.int pa), .val (.int pb), .unset, .unset, .unset, .unset, .unset, .unset, .unset, .unset] []) := by first | (simp [entryFrame, mkF, argsToLocals, Value.category, maxLocals]; done) | rfl
def Q_lo (Z : State) (lim : Int32) (pa : Int32) (pb : Int32) (dv : Addr) (tn : Addr) (la : Addr) (cK : ClassId) (kn : ClassId) (h0 : Heap) (n0 : Nat) (v : Option Value) (h : Heap) (L : List Loc) : Prop := v = some (.int 1) ∧ Fr n0 L
set_option maxRecDepth 65536 in
set_option maxHeartbeats 40000000 in
theorem rm_lo (l : Launch) (Z : State) (a0 : Array Value) (hw : ∀ d ∈ tables_1, d.before a0 Z = true) (ws : List Jvm.Cond) (lim : Int32) (pa : Int32) (pb : Int32) (dv : Addr) (tn : Addr) (la : Addr) (cK : ClassId) (kn : ClassId) (h0 : Heap) (n0 : Nat) (Z0 : n0 ≤ h0.size) (k0_ : Old Z n0 h0) (k1_ : Arv Z h0 tn kn .byte (0 : Int32) [] (.int (0 : Int32))) (SD : Sta Z Z.heap "java/util/ArrayList" "DEFAULTCAPACITY_EMPTY_ELEMENTDATA" "[Ljava/lang/Object;" (.ref dv)) (SN : Sta Z Z.heap "com/example/riskloom/riskloom/gateway/http/BodyBuffer" "NONE" "[B" (.ref tn)) (LM : own_Lam Z la cK) (hl : 0 < lim.toInt) (hq : if_icmp.holds .ge ((lo_x lim pa pb) + (lo_y lim pa pb)) (lo_r lim pa pb) = true)  :
    MetFree l x (head1 (Jvm.Cond.code x code maxLocals ret :: ws) room_1) (fun a U => a = #[(.int lim), (.int pa), (.int pb)] ∧ Z.WarmedH U.vm ∧ U.heap = h0) (fun _ _ _ _ _ => True) (fun _ U o U' => ∃ v L, o = .returned v ∧ Q_lo Z lim pa pb dv tn la cK kn h0 n0 v U'.heap L ∧ FrameEnd U o U' L 16 16512) := by
  refine MetFree.of_bodySF (plainFor_of_name pn_4) hisR ?_
  intro p e s m args below meth c s₁ Bd hml0 hP hK
  obtain ⟨rfl, hZH, hh⟩ := hP
  have hZ := hZH.wide
  have hx := Bd.exec
  have hby := Bd.bytes
  have hml : c.maxLocals = 11 := hml0
  have hown : s.vm.findClass "com/example/riskloom/riskloom/gateway/http/BodyBufferAdvancePinLaw" = some m.cls := findClass_of_methodNamed Bd.named
  have hnm := (name_of_methodNamed Bd.named Bd.method).1
  have X0 : Stand p l e room_1 s m #[(.int lim), (.int pa), (.int pb)] below meth c s₁ [] 0 0 := Stand.of_body Bd
  have e0 : s₁.heap = h0 := by rw [← hh, Bd.state]; rfl
  have N0 := Fr.nil n0
  have pre0 : ∀ t, Steps p.tables e below (s₁.setTop (mkF m 0 #[.val (.int lim), .val (.int pa), .val (.int pb), .unset, .unset, .unset, .unset, .unset, .unset, .unset, .unset] [])) t → Steps p.tables e below (s₁.setTop (entryFrame m #[(.int lim), (.int pa), (.int pb)] maxLocals)) t := fun t k => castTop (ef_lo m lim pa pb) k
  obtain ⟨T1, h1, X1, e1, E1, A1, D1, -, st1⟩ := newO X0 hx hZ hown (hw _ (List.mem_of_getElem? (i := 0) rfl)) (hw _ (List.mem_of_getElem? (i := 1) rfl)) (hw _ (List.mem_of_getElem? (i := 2) rfl)) e0 (g := (mkF m 0 #[.val (.int lim), .val (.int pa), .val (.int pb), .unset, .unset, .unset, .unset, .unset, .unset, .unset, .unset] [])) rfl (hb hby at_0) (by decide) (by decide)
  obtain ⟨ad1, g1⟩ : ∃ z, z = (h0).size := ⟨_, rfl⟩
  rw [← g1] at A1 D1 st1
  have ne_tn_ad1 : tn ≠ ad1 := Nat.ne_of_lt (Nat.lt_of_lt_of_le (k1_.lt) (Nat.le_of_eq g1.symm))
  have q2 : Old Z n0 h1 := (k0_.ext E1)
  have q3 : Arv Z h1 tn kn .byte (0 : Int32) [] (.int (0 : Int32)) := (k1_.ext E1)
  have F1_0 : Fld Z h1 ad1 "com/example/riskloom/riskloom/gateway/http/BodyBuffer" "full" "Ljava/util/List;" .null := (D1 (Or.inr (hw _ (List.mem_of_getElem? (i := 40) rfl))) (ty := (.object "java/util/List")) (by decide))
  have F1_1 : Fld Z h1 ad1 "com/example/riskloom/riskloom/gateway/http/BodyBuffer" "last" "[B" .null := (D1 (Or.inl (hw _ (List.mem_of_getElem? (i := 44) rfl))) (ty := (.array .byte)) (by decide))
  have F1_2 : Fld Z h1 ad1 "com/example/riskloom/riskloom/gateway/http/BodyBuffer" "limit" "I" (.int (0 : Int32)) := (D1 (Or.inr (hw _ (List.mem_of_getElem? (i := 46) rfl))) (ty := .int) (by decide))
  have F1_3 : Fld Z h1 ad1 "com/example/riskloom/riskloom/gateway/http/BodyBuffer" "heap" "Ljava/util/function/IntFunction;" .null := (D1 (Or.inr (hw _ (List.mem_of_getElem? (i := 48) rfl))) (ty := (.object "java/util/function/IntFunction")) (by decide))
  have F1_4 : Fld Z h1 ad1 "com/example/riskloom/riskloom/gateway/http/BodyBuffer" "lastLength" "I" (.int (0 : Int32)) := (D1 (Or.inl (hw _ (List.mem_of_getElem? (i := 55) rfl))) (ty := .int) (by decide))
  have F1_5 : Fld Z h1 ad1 "com/example/riskloom/riskloom/gateway/http/BodyBuffer" "length" "I" (.int (0 : Int32)) := (D1 (Or.inl (hw _ (List.mem_of_getElem? (i := 57) rfl))) (ty := .int) (by decide))
  have F1_6 : Fld Z h1 ad1 "com/example/riskloom/riskloom/gateway/http/BodyBuffer" "heldBytes" "J" (.long (0 : Int64)) := (D1 (Or.inl (hw _ (List.mem_of_getElem? (i := 69) rfl))) (ty := .long) (by decide))
  have Z1 : n0 ≤ h1.size := Nat.le_trans Z0 E1.1
  have gn1 : n0 ≤ ad1 := Nat.le_trans Z0 (Nat.le_of_eq g1.symm)
  obtain ⟨_, _, ⟨T4, L4, k4, n4⟩, -, X4, ⟨Lc4, hQ4, l4, y4, z4⟩, st4⟩ := X1.specialBack hx (y := (⟨"com/example/riskloom/riskloom/gateway/http/BodyBuffer", "<init>", "(I)V"⟩ : MethodName)) rfl hown (mvT hZ (hw _ (List.mem_of_getElem? (i := 3) rfl))) (mvT hZ (hw _ (List.mem_of_getElem? (i := 4) rfl))) (mvT hZ (hw _ (List.mem_of_getElem? (i := 5) rfl))) (by decide) (backOf (W := 1) (rm_bj l Z a0 hw [] ad1 lim dv tn la cK (h1) n0 Z1 A1 F1_0 F1_1 F1_2 F1_3 F1_4 F1_5 F1_6 gn1 q2 SD SN LM) hZ (hw _ (List.mem_of_getElem? (i := 5) rfl)) (hw _ (List.mem_of_getElem? (i := 2) rfl)) (by decide) (by decide)) (g := (mkF m 5 #[.val (.int lim), .val (.int pa), .val (.int pb), .unset, .unset, .unset, .unset, .unset, .unset, .unset, .unset] [(.int lim), (.ref ad1), (.ref ad1)])) rfl (by rw [hml]; rfl) (Steps.refl _) (a := ad1) (argsL := [(.int lim)]) (rest := [(.ref ad1)]) (lenOf pd_6 rfl) rfl (by show 2 * 0 + _ ≤ _; exact Nat.le_of_eq rfl) (hb hby at_5) (fun _ _ => ⟨rfl, e1, (by decide : 1 + 1 ≤ _), (by decide : 7 + 3 ≤ _)⟩)
  dsimp only [Pt.U, Pt.locs, Pt.cells, Pt.slots] at X4 l4 y4 z4 st4 hQ4
  rw [l4, y4, z4] at X4
  replace X4 : Stand _ _ _ _ _ _ _ _ _ _ _ _ 2 10 := X4
  obtain ⟨x4_0, vq4, N4, K4, p4_0, p4_1, p4_2, p4_3, p4_4, p4_5, p4_6, p4_7, p4_8, p4_9, p4_10⟩ := hQ4
  rw [vq4] at st4
  have Nn4 := Fr.app N0 N4
  have q5 : Old Z n0 T4.heap := (q2.keep K4 (allS gn1 all0))
  have q6 : Arv Z T4.heap tn kn .byte (0 : Int32) [] (.int (0 : Int32)) := (q3.keep K4 (fun q => ne_tn_ad1 (List.mem_singleton.mp q)))
  have Z4 : n0 ≤ T4.heap.size := Nat.le_trans Z1 K4.1
  obtain ⟨cq7, kq7, qa7, qb7, qc7⟩ := isOf hZ rfl p4_0
  obtain ⟨vv7, _, ⟨T7, L7, k7, n7⟩, -, X7, ⟨_, _, tt7, Lc7, ee7, -, ⟨vw7, Lq7, hv7, hQ7⟩, l7, hL7, y7, z7⟩, st7⟩ := X4.virtualBack hx (y := (⟨"com/example/riskloom/riskloom/gateway/http/BodyBuffer", "room", "()I"⟩ : MethodName)) (z := (⟨"com/example/riskloom/riskloom/gateway/http/BodyBuffer", "room", "()I"⟩ : MethodName)) hown (mvT hZ (hw _ (List.mem_of_getElem? (i := 49) rfl))) (mvT hZ (hw _ (List.mem_of_getElem? (i := 50) rfl))) (notFace_of_selects (args := #[]) (mvT hZ (hw _ (List.mem_of_getElem? (i := 52) rfl)))) (mvT hZ (hw _ (List.mem_of_getElem? (i := 52) rfl))) (mvT hZ (hw _ (List.mem_of_getElem? (i := 51) rfl))) (by decide) (back_of (W := 0) (own_met (rm_r2 l Z a0 hw [] ad1 x4_0 tn lim la kn cK (T4.heap) n0 Z4 p4_0 p4_1 p4_2 p4_3 p4_4 p4_5 p4_6 p4_7 p4_8 p4_9 q6 gn1 q5 p4_10 ne_tn_ad1 LM hl) (n0 := n0) (fun _ _ _ ⟨_, _, _, q, _⟩ => q)) (fun _ _ _ _ h => h) rfl rfl (by decide) (by decide) (fun d hd a' U hU => by rw [List.mem_singleton.mp hd]; exact mvT (wtrans hZ hU) (hw _ (List.mem_of_getElem? (i := 53) rfl))) (List.mem_singleton.mpr rfl) (fun a' U hU => mvT (wtrans hZ hU) (hw _ (List.mem_of_getElem? (i := 2) rfl)))) qa7 qc7 (g := (mkF m 10 #[.val (.int lim), .val (.int pa), .val (.int pb), .val (.ref ad1), .unset, .unset, .unset, .unset, .unset, .unset, .unset] [(.ref ad1)])) rfl (by rw [hml]; rfl) (Steps.refl _) (argsL := []) (rest := []) (lenOf pd_7 rfl) rfl (by show 2 * 0 + _ ≤ _; exact Nat.le_of_eq rfl) (hb hby at_10) (fun vm1 h1 => ⟨(by decide : 2 + 1 ≤ _), (by decide : 10 + 8192 ≤ _), rfl, State.WarmedH.trans hZH h1, rfl⟩)
  dsimp only [Pt.U, Pt.locs, Pt.cells, Pt.slots] at X7 l7 y7 z7 st7 ee7
  rw [← ee7] at hQ7
  have hw7 : vv7 = vw7 := by injection hv7
  rw [hw7] at st7
  rw [l7, y7, z7] at X7
  replace X7 : Stand _ _ _ _ _ _ _ _ _ _ _ _ 3 8202 := X7
  obtain ⟨x7_0, x7_1, vq7, N7, K7, p7_0, p7_1, p7_2, p7_3, p7_4, p7_5, p7_6, p7_7, p7_8, p7_9, p7_10⟩ := hQ7
  rw [vq7] at st7
  have N7 : Fr n0 Lc7 := hL7
  have Nn7 := Fr.app Nn4 N7
  have q8 : Old Z n0 T7.heap := (q5.keep K7 (allS gn1 all0))
  have q9 : Arv Z T7.heap tn kn .byte (0 : Int32) [] (.int (0 : Int32)) := (q6.keep K7 (fun q => ne_tn_ad1 (List.mem_singleton.mp q)))
  have q10 : Exa Z T7.heap x4_0 "java/util/ArrayList" := (p4_8.keep K7)
  have q11 : Fld Z T7.heap x4_0 "java/util/ArrayList" "size" "I" (.int (0 : Int32)) := (p4_9.keep K7 (fun q => p4_10 (List.mem_singleton.mp q)))
  have Z7 : n0 ≤ T7.heap.size := Nat.le_trans Z4 K7.1
  obtain ⟨cq12, kq12, qa12, qb12, qc12⟩ := isOf hZ rfl p7_0
  obtain ⟨_, _, ⟨T12, L12, k12, n12⟩, -, X12, ⟨Lc12, hQ12, l12, y12, z12⟩, st12⟩ := X7.virtualBack hx (y := (⟨"com/example/riskloom/riskloom/gateway/http/BodyBuffer", "array", "()[B"⟩ : MethodName)) (z := (⟨"com/example/riskloom/riskloom/gateway/http/BodyBuffer", "array", "()[B"⟩ : MethodName)) hown (mvT hZ (hw _ (List.mem_of_getElem? (i := 58) rfl))) (mvT hZ (hw _ (List.mem_of_getElem? (i := 59) rfl))) (notFace_of_selects (args := #[]) (mvT hZ (hw _ (List.mem_of_getElem? (i := 61) rfl)))) (mvT hZ (hw _ (List.mem_of_getElem? (i := 61) rfl))) (mvT hZ (hw _ (List.mem_of_getElem? (i := 60) rfl))) (by decide) (backOf (W := 0) (rm_arr l Z a0 hw [] ad1 x7_0 (T7.heap) n0 Z7 p7_2 ) hZ (hw _ (List.mem_of_getElem? (i := 62) rfl)) (hw _ (List.mem_of_getElem? (i := 2) rfl)) (by decide) (by decide)) qa12 qc12 (g := (mkF m 31 #[.val (.int lim), .val (.int pa), .val (.int pb), .val (.ref ad1), .val (.int (lo_r lim pa pb)), .unset, .unset, .unset, .unset, .unset, .unset] [(.ref ad1)])) rfl (by rw [hml]; rfl) (Steps.refl _) (argsL := []) (rest := []) (lenOf pd_8 rfl) rfl (by show 2 * 0 + _ ≤ _; exact Nat.le_of_eq rfl) (hb hby at_31) (fun _ _ => ⟨rfl, rfl, (by decide : 3 + 0 ≤ _), (by decide : 8202 + 0 ≤ _)⟩)
  dsimp only [Pt.U, Pt.locs, Pt.cells, Pt.slots] at X12 l12 y12 z12 st12 hQ12
  rw [l12, y12, z12] at X12
  replace X12 : Stand _ _ _ _ _ _ _ _ _ _ _ _ 3 8202 := X12
  obtain ⟨vq12, N12, e12⟩ := hQ12
  rw [vq12] at st12
  have Nn12 := Fr.app Nn7 N12
  obtain ⟨cq13, kq13, qa13, qb13, qc13⟩ := isOf hZ e12 p7_0
  obtain ⟨_, _, ⟨T13, L13, k13, n13⟩, -, X13, ⟨Lc13, hQ13, l13, y13, z13⟩, st13⟩ := X12.virtualBack hx (y := (⟨"com/example/riskloom/riskloom/gateway/http/BodyBuffer", "heldBytes", "()J"⟩ : MethodName)) (z := (⟨"com/example/riskloom/riskloom/gateway/http/BodyBuffer", "heldBytes", "()J"⟩ : MethodName)) hown (mvT hZ (hw _ (List.mem_of_getElem? (i := 63) rfl))) (mvT hZ (hw _ (List.mem_of_getElem? (i := 64) rfl))) (notFace_of_selects (args := #[]) (mvT hZ (hw _ (List.mem_of_getElem? (i := 66) rfl)))) (mvT hZ (hw _ (List.mem_of_getElem? (i := 66) rfl))) (mvT hZ (hw _ (List.mem_of_getElem? (i := 65) rfl))) (by decide) (backOf (W := 0) (rm_held l Z a0 hw [] ad1 ((0 : Int64) + (Int32.toInt64 ((mr_cap lim) - (0 : Int32)))) (T7.heap) n0 Z7 p7_7 ) hZ (hw _ (List.mem_of_getElem? (i := 67) rfl)) (hw _ (List.mem_of_getElem? (i := 2) rfl)) (by decide) (by decide)) qa13 qc13 (g := (mkF m 37 #[.val (.int lim), .val (.int pa), .val (.int pb), .val (.ref ad1), .val (.int (lo_r lim pa pb)), .val (.ref x7_0), .unset, .unset, .unset, .unset, .unset] [(.ref ad1)])) rfl (by rw [hml]; rfl) (Steps.refl _) (argsL := []) (rest := []) (lenOf pd_9 rfl) rfl (by show 2 * 0 + _ ≤ _; exact Nat.le_of_eq rfl) (hb hby at_37) (fun _ _ => ⟨rfl, e12, (by decide : 3 + 0 ≤ _), (by decide : 8202 + 0 ≤ _)⟩)
  dsimp only [Pt.U, Pt.locs, Pt.cells, Pt.slots] at X13 l13 y13 z13 st13 hQ13
  rw [l13, y13, z13] at X13
  replace X13 : Stand _ _ _ _ _ _ _ _ _ _ _ _ 3 8202 := X13
  obtain ⟨vq13, N13, e13⟩ := hQ13
  rw [vq13] at st13
  have Nn13 := Fr.app Nn12 N13
  obtain ⟨cq14, kq14, qa14, qb14, qc14⟩ := isOf hZ e13 p7_0
  obtain ⟨_, _, ⟨T14, L14, k14, n14⟩, -, X14, ⟨Lc14, hQ14, l14, y14, z14⟩, st14⟩ := X13.virtualBack hx (y := (⟨"com/example/riskloom/riskloom/gateway/http/BodyBuffer", "advance", "(I)V"⟩ : MethodName)) (z := (⟨"com/example/riskloom/riskloom/gateway/http/BodyBuffer", "advance", "(I)V"⟩ : MethodName)) hown (mvT hZ (hw _ (List.mem_of_getElem? (i := 71) rfl))) (mvT hZ (hw _ (List.mem_of_getElem? (i := 72) rfl))) (notFace_of_selects (args := #[]) (mvT hZ (hw _ (List.mem_of_getElem? (i := 74) rfl)))) (mvT hZ (hw _ (List.mem_of_getElem? (i := 74) rfl))) (mvT hZ (hw _ (List.mem_of_getElem? (i := 73) rfl))) (by decide) (backOf (W := 0) (rm_adv l Z a0 hw [] ad1 (lo_x lim pa pb) x4_0 x7_0 lim la (0 : Int32) (0 : Int32) ((0 : Int64) + (Int32.toInt64 ((mr_cap lim) - (0 : Int32)))) (T7.heap) n0 Z7 p7_0 p7_1 p7_2 p7_3 p7_4 p7_5 p7_6 p7_7 gn1 ) hZ (hw _ (List.mem_of_getElem? (i := 75) rfl)) (hw _ (List.mem_of_getElem? (i := 2) rfl)) (by decide) (by decide)) qa14 qc14 (g := (mkF m 70 #[.val (.int lim), .val (.int pa), .val (.int pb), .val (.ref ad1), .val (.int (lo_r lim pa pb)), .val (.ref x7_0), .val (.long ((0 : Int64) + (Int32.toInt64 ((mr_cap lim) - (0 : Int32))))), .second, .val (.int (lo_x lim pa pb)), .val (.int (lo_y lim pa pb)), .unset] [(.int (lo_x lim pa pb)), (.ref ad1)])) rfl (by rw [hml]; rfl) (Steps.refl _) (argsL := [(.int (lo_x lim pa pb))]) (rest := []) (lenOf pd_6 rfl) rfl (by show 2 * 0 + _ ≤ _; exact Nat.le_of_eq rfl) (hb hby at_70) (fun _ _ => ⟨rfl, e13, (by decide : 3 + 0 ≤ _), (by decide : 8202 + 0 ≤ _)⟩)
  dsimp only [Pt.U, Pt.locs, Pt.cells, Pt.slots] at X14 l14 y14 z14 st14 hQ14
  rw [l14, y14, z14] at X14
  replace X14 : Stand _ _ _ _ _ _ _ _ _ _ _ _ 3 8202 := X14
  obtain ⟨vq14, N14, K14, p14_0, p14_1, p14_2, p14_3, p14_4, p14_5, p14_6, p14_7⟩ := hQ14
  rw [vq14] at st14
  have Nn14 := Fr.app Nn13 N14
  have q15 : Old Z n0 T14.heap := (q8.keep K14 (allS gn1 all0))
  have q16 : Arv Z T14.heap tn kn .byte (0 : Int32) [] (.int (0 : Int32)) := (q9.keep K14 (fun q => ne_tn_ad1 (List.mem_singleton.mp q)))
  have q17 : Exa Z T14.heap x4_0 "java/util/ArrayList" := (q10.keep K14)
  have q18 : Fld Z T14.heap x4_0 "java/util/ArrayList" "size" "I" (.int (0 : Int32)) := (q11.keep K14 (fun q => p4_10 (List.mem_singleton.mp q)))
  have q19 : Arv Z T14.heap x7_0 x7_1 .byte (mr_cap lim) [] (.int (0 : Int32)) := (p7_8.keep K14 (fun q => p7_10 (List.mem_singleton.mp q)))
  have Z14 : n0 ≤ T14.heap.size := Nat.le_trans Z7 K14.1
  obtain ⟨cq20, kq20, qa20, qb20, qc20⟩ := isOf hZ rfl p14_0
  obtain ⟨_, _, ⟨T20, L20, k20, n20⟩, -, X20, ⟨Lc20, hQ20, l20, y20, z20⟩, st20⟩ := X14.virtualBack hx (y := (⟨"com/example/riskloom/riskloom/gateway/http/BodyBuffer", "advance", "(I)V"⟩ : MethodName)) (z := (⟨"com/example/riskloom/riskloom/gateway/http/BodyBuffer", "advance", "(I)V"⟩ : MethodName)) hown (mvT hZ (hw _ (List.mem_of_getElem? (i := 71) rfl))) (mvT hZ (hw _ (List.mem_of_getElem? (i := 72) rfl))) (notFace_of_selects (args := #[]) (mvT hZ (hw _ (List.mem_of_getElem? (i := 74) rfl)))) (mvT hZ (hw _ (List.mem_of_getElem? (i := 74) rfl))) (mvT hZ (hw _ (List.mem_of_getElem? (i := 73) rfl))) (by decide) (backOf (W := 0) (rm_adv l Z a0 hw [] ad1 (lo_y lim pa pb) x4_0 x7_0 lim la ((0 : Int32) + (lo_x lim pa pb)) ((0 : Int32) + (lo_x lim pa pb)) ((0 : Int64) + (Int32.toInt64 ((mr_cap lim) - (0 : Int32)))) (T14.heap) n0 Z14 p14_0 p14_1 p14_2 p14_3 p14_4 p14_5 p14_6 p14_7 gn1 ) hZ (hw _ (List.mem_of_getElem? (i := 75) rfl)) (hw _ (List.mem_of_getElem? (i := 2) rfl)) (by decide) (by decide)) qa20 qc20 (g := (mkF m 76 #[.val (.int lim), .val (.int pa), .val (.int pb), .val (.ref ad1), .val (.int (lo_r lim pa pb)), .val (.ref x7_0), .val (.long ((0 : Int64) + (Int32.toInt64 ((mr_cap lim) - (0 : Int32))))), .second, .val (.int (lo_x lim pa pb)), .val (.int (lo_y lim pa pb)), .unset] [(.int (lo_y lim pa pb)), (.ref ad1)])) rfl (by rw [hml]; rfl) (Steps.refl _) (argsL := [(.int (lo_y lim pa pb))]) (rest := []) (lenOf pd_6 rfl) rfl (by show 2 * 0 + _ ≤ _; exact Nat.le_of_eq rfl) (hb hby at_76) (fun _ _ => ⟨rfl, rfl, (by decide : 3 + 0 ≤ _), (by decide : 8202 + 0 ≤ _)⟩)
  dsimp only [Pt.U, Pt.locs, Pt.cells, Pt.slots] at X20 l20 y20 z20 st20 hQ20
  rw [l20, y20, z20] at X20
  replace X20 : Stand _ _ _ _ _ _ _ _ _ _ _ _ 3 8202 := X20
  obtain ⟨vq20, N20, K20, p20_0, p20_1, p20_2, p20_3, p20_4, p20_5, p20_6, p20_7⟩ := hQ20
  rw [vq20] at st20
  have Nn20 := Fr.app Nn14 N20
  have q21 : Old Z n0 T20.heap := (q15.keep K20 (allS gn1 all0))
  have q22 : Arv Z T20.heap tn kn .byte (0 : Int32) [] (.int (0 : Int32)) := (q16.keep K20 (fun q => ne_tn_ad1 (List.mem_singleton.mp q)))
  have q23 : Exa Z T20.heap x4_0 "java/util/ArrayList" := (q17.keep K20)
  have q24 : Fld Z T20.heap x4_0 "java/util/ArrayList" "size" "I" (.int (0 : Int32)) := (q18.keep K20 (fun q => p4_10 (List.mem_singleton.mp q)))
  have q25 : Arv Z T20.heap x7_0 x7_1 .byte (mr_cap lim) [] (.int (0 : Int32)) := (q19.keep K20 (fun q => p7_10 (List.mem_singleton.mp q)))
  have Z20 : n0 ≤ T20.heap.size := Nat.le_trans Z14 K20.1
  obtain ⟨cq26, kq26, qa26, qb26, qc26⟩ := isOf hZ rfl p20_0
  obtain ⟨_, _, ⟨T26, L26, k26, n26⟩, -, X26, ⟨Lc26, hQ26, l26, y26, z26⟩, st26⟩ := X20.virtualBack hx (y := (⟨"com/example/riskloom/riskloom/gateway/http/BodyBuffer", "position", "()I"⟩ : MethodName)) (z := (⟨"com/example/riskloom/riskloom/gateway/http/BodyBuffer", "position", "()I"⟩ : MethodName)) hown (mvT hZ (hw _ (List.mem_of_getElem? (i := 76) rfl))) (mvT hZ (hw _ (List.mem_of_getElem? (i := 77) rfl))) (notFace_of_selects (args := #[]) (mvT hZ (hw _ (List.mem_of_getElem? (i := 79) rfl)))) (mvT hZ (hw _ (List.mem_of_getElem? (i := 79) rfl))) (mvT hZ (hw _ (List.mem_of_getElem? (i := 78) rfl))) (by decide) (backOf (W := 0) (rm_pos l Z a0 hw [] ad1 (((0 : Int32) + (lo_x lim pa pb)) + (lo_y lim pa pb)) (T20.heap) n0 Z20 p20_5 ) hZ (hw _ (List.mem_of_getElem? (i := 80) rfl)) (hw _ (List.mem_of_getElem? (i := 2) rfl)) (by decide) (by decide)) qa26 qc26 (g := (mkF m 80 #[.val (.int lim), .val (.int pa), .val (.int pb), .val (.ref ad1), .val (.int (lo_r lim pa pb)), .val (.ref x7_0), .val (.long ((0 : Int64) + (Int32.toInt64 ((mr_cap lim) - (0 : Int32))))), .second, .val (.int (lo_x lim pa pb)), .val (.int (lo_y lim pa pb)), .unset] [(.ref ad1)])) rfl (by rw [hml]; rfl) (Steps.refl _) (argsL := []) (rest := []) (lenOf pd_7 rfl) rfl (by show 2 * 0 + _ ≤ _; exact Nat.le_of_eq rfl) (hb hby at_80) (fun _ _ => ⟨rfl, rfl, (by decide : 3 + 0 ≤ _), (by decide : 8202 + 0 ≤ _)⟩)
  dsimp only [Pt.U, Pt.locs, Pt.cells, Pt.slots] at X26 l26 y26 z26 st26 hQ26
  rw [l26, y26, z26] at X26
  replace X26 : Stand _ _ _ _ _ _ _ _ _ _ _ _ 3 8202 := X26
  obtain ⟨vq26, N26, e26⟩ := hQ26
  rw [vq26] at st26
  have Nn26 := Fr.app Nn20 N26
  obtain ⟨cq27, kq27, qa27, qb27, qc27⟩ := isOf hZ e26 p20_0
  obtain ⟨_, _, ⟨T27, L27, k27, n27⟩, -, X27, ⟨Lc27, hQ27, l27, y27, z27⟩, st27⟩ := X26.virtualBack hx (y := (⟨"com/example/riskloom/riskloom/gateway/http/BodyBuffer", "length", "()I"⟩ : MethodName)) (z := (⟨"com/example/riskloom/riskloom/gateway/http/BodyBuffer", "length", "()I"⟩ : MethodName)) hown (mvT hZ (hw _ (List.mem_of_getElem? (i := 81) rfl))) (mvT hZ (hw _ (List.mem_of_getElem? (i := 82) rfl))) (notFace_of_selects (args := #[]) (mvT hZ (hw _ (List.mem_of_getElem? (i := 84) rfl)))) (mvT hZ (hw _ (List.mem_of_getElem? (i := 84) rfl))) (mvT hZ (hw _ (List.mem_of_getElem? (i := 83) rfl))) (by decide) (backOf (W := 0) (rm_len l Z a0 hw [] ad1 (((0 : Int32) + (lo_x lim pa pb)) + (lo_y lim pa pb)) (T20.heap) n0 Z20 p20_6 ) hZ (hw _ (List.mem_of_getElem? (i := 85) rfl)) (hw _ (List.mem_of_getElem? (i := 2) rfl)) (by decide) (by decide)) qa27 qc27 (g := (mkF m 92 #[.val (.int lim), .val (.int pa), .val (.int pb), .val (.ref ad1), .val (.int (lo_r lim pa pb)), .val (.ref x7_0), .val (.long ((0 : Int64) + (Int32.toInt64 ((mr_cap lim) - (0 : Int32))))), .second, .val (.int (lo_x lim pa pb)), .val (.int (lo_y lim pa pb)), .unset] [(.ref ad1)])) rfl (by rw [hml]; rfl) (Steps.refl _) (argsL := []) (rest := []) (lenOf pd_7 rfl) rfl (by show 2 * 0 + _ ≤ _; exact Nat.le_of_eq rfl) (hb hby at_92) (fun _ _ => ⟨rfl, e26, (by decide : 3 + 0 ≤ _), (by decide : 8202 + 0 ≤ _)⟩)
  dsimp only [Pt.U, Pt.locs, Pt.cells, Pt.slots] at X27 l27 y27 z27 st27 hQ27
  rw [l27, y27, z27] at X27
  replace X27 : Stand _ _ _ _ _ _ _ _ _ _ _ _ 3 8202 := X27
  obtain ⟨vq27, N27, e27⟩ := hQ27
  rw [vq27] at st27
  have Nn27 := Fr.app Nn26 N27
  obtain ⟨cq28, kq28, qa28, qb28, qc28⟩ := isOf hZ e27 p20_0
  obtain ⟨_, _, ⟨T28, L28, k28, n28⟩, -, X28, ⟨Lc28, hQ28, l28, y28, z28⟩, st28⟩ := X27.virtualBack hx (y := (⟨"com/example/riskloom/riskloom/gateway/http/BodyBuffer", "array", "()[B"⟩ : MethodName)) (z := (⟨"com/example/riskloom/riskloom/gateway/http/BodyBuffer", "array", "()[B"⟩ : MethodName)) hown (mvT hZ (hw _ (List.mem_of_getElem? (i := 58) rfl))) (mvT hZ (hw _ (List.mem_of_getElem? (i := 59) rfl))) (notFace_of_selects (args := #[]) (mvT hZ (hw _ (List.mem_of_getElem? (i := 61) rfl)))) (mvT hZ (hw _ (List.mem_of_getElem? (i := 61) rfl))) (mvT hZ (hw _ (List.mem_of_getElem? (i := 60) rfl))) (by decide) (backOf (W := 0) (rm_arr l Z a0 hw [] ad1 x7_0 (T20.heap) n0 Z20 p20_2 ) hZ (hw _ (List.mem_of_getElem? (i := 62) rfl)) (hw _ (List.mem_of_getElem? (i := 2) rfl)) (by decide) (by decide)) qa28 qc28 (g := (mkF m 104 #[.val (.int lim), .val (.int pa), .val (.int pb), .val (.ref ad1), .val (.int (lo_r lim pa pb)), .val (.ref x7_0), .val (.long ((0 : Int64) + (Int32.toInt64 ((mr_cap lim) - (0 : Int32))))), .second, .val (.int (lo_x lim pa pb)), .val (.int (lo_y lim pa pb)), .unset] [(.ref ad1)])) rfl (by rw [hml]; rfl) (Steps.refl _) (argsL := []) (rest := []) (lenOf pd_8 rfl) rfl (by show 2 * 0 + _ ≤ _; exact Nat.le_of_eq rfl) (hb hby at_104) (fun _ _ => ⟨rfl, e27, (by decide : 3 + 0 ≤ _), (by decide : 8202 + 0 ≤ _)⟩)
  dsimp only [Pt.U, Pt.locs, Pt.cells, Pt.slots] at X28 l28 y28 z28 st28 hQ28
  rw [l28, y28, z28] at X28
  replace X28 : Stand _ _ _ _ _ _ _ _ _ _ _ _ 3 8202 := X28
  obtain ⟨vq28, N28, e28⟩ := hQ28
  rw [vq28] at st28
  have Nn28 := Fr.app Nn27 N28
  obtain ⟨cq29, kq29, qa29, qb29, qc29⟩ := isOf hZ e28 p20_0
  obtain ⟨_, _, ⟨T29, L29, k29, n29⟩, -, X29, ⟨Lc29, hQ29, l29, y29, z29⟩, st29⟩ := X28.virtualBack hx (y := (⟨"com/example/riskloom/riskloom/gateway/http/BodyBuffer", "heldBytes", "()J"⟩ : MethodName)) (z := (⟨"com/example/riskloom/riskloom/gateway/http/BodyBuffer", "heldBytes", "()J"⟩ : MethodName)) hown (mvT hZ (hw _ (List.mem_of_getElem? (i := 63) rfl))) (mvT hZ (hw _ (List.mem_of_getElem? (i := 64) rfl))) (notFace_of_selects (args := #[]) (mvT hZ (hw _ (List.mem_of_getElem? (i := 66) rfl)))) (mvT hZ (hw _ (List.mem_of_getElem? (i := 66) rfl))) (mvT hZ (hw _ (List.mem_of_getElem? (i := 65) rfl))) (by decide) (backOf (W := 0) (rm_held l Z a0 hw [] ad1 ((0 : Int64) + (Int32.toInt64 ((mr_cap lim) - (0 : Int32)))) (T20.heap) n0 Z20 p20_7 ) hZ (hw _ (List.mem_of_getElem? (i := 67) rfl)) (hw _ (List.mem_of_getElem? (i := 2) rfl)) (by decide) (by decide)) qa29 qc29 (g := (mkF m 113 #[.val (.int lim), .val (.int pa), .val (.int pb), .val (.ref ad1), .val (.int (lo_r lim pa pb)), .val (.ref x7_0), .val (.long ((0 : Int64) + (Int32.toInt64 ((mr_cap lim) - (0 : Int32))))), .second, .val (.int (lo_x lim pa pb)), .val (.int (lo_y lim pa pb)), .unset] [(.ref ad1)])) rfl (by rw [hml]; rfl) (Steps.refl _) (argsL := []) (rest := []) (lenOf pd_9 rfl) rfl (by show 2 * 0 + _ ≤ _; exact Nat.le_of_eq rfl) (hb hby at_113) (fun _ _ => ⟨rfl, e28, (by decide : 3 + 0 ≤ _), (by decide : 8202 + 0 ≤ _)⟩)
  dsimp only [Pt.U, Pt.locs, Pt.cells, Pt.slots] at X29 l29 y29 z29 st29 hQ29
  rw [l29, y29, z29] at X29
  replace X29 : Stand _ _ _ _ _ _ _ _ _ _ _ _ 3 8202 := X29
  obtain ⟨vq29, N29, e29⟩ := hQ29
  rw [vq29] at st29
  have Nn29 := Fr.app Nn28 N29
  obtain ⟨fs, hr, hrun, hended, hW, hsame⟩ := X29.leave (v := some (.int (1 : Int32))) (fun h => by rw [Bd.returns] at h; cases h)
  refine ⟨_, _, pre0 _ ?_, hrun, hended, _, _, rfl, ?_, ⟨_, rfl⟩, hW, hsame.mono (Nat.le_of_ble_eq_true rfl) (Nat.le_of_ble_eq_true rfl)⟩
  · show Steps p.tables e below (s₁.setTop (mkF m 0 #[.val (.int lim), .val (.int pa), .val (.int pb), .unset, .unset, .unset, .unset, .unset, .unset, .unset, .unset] [])) _
    refine st1 _ ?_
    show Steps p.tables e below (T1.setTop (mkF m 3 #[.val (.int lim), .val (.int pa), .val (.int pb), .unset, .unset, .unset, .unset, .unset, .unset, .unset, .unset] [(.ref ad1)])) _
    refine XS.dup X1.here hx rfl (hb hby at_3) rfl rfl ?_
    show Steps p.tables e below (T1.setTop (mkF m 4 #[.val (.int lim), .val (.int pa), .val (.int pb), .unset, .unset, .unset, .unset, .unset, .unset, .unset, .unset] [(.ref ad1), (.ref ad1)])) _
    refine XS.iloadN X1.here hx rfl (hb hby at_4) rfl ?_
    show Steps p.tables e below (T1.setTop (mkF m 5 #[.val (.int lim), .val (.int pa), .val (.int pb), .unset, .unset, .unset, .unset, .unset, .unset, .unset, .unset] [(.int lim), (.ref ad1), (.ref ad1)])) _
    refine st4.trans ?_
    show Steps p.tables e below (T4.setTop (mkF m 8 #[.val (.int lim), .val (.int pa), .val (.int pb), .unset, .unset, .unset, .unset, .unset, .unset, .unset, .unset] [(.ref ad1)])) _
    refine XS.astoreN X4.here hx rfl (hb hby at_8) rfl rfl (l' := #[.val (.int lim), .val (.int pa), .val (.int pb), .val (.ref ad1), .unset, .unset, .unset, .unset, .unset, .unset, .unset]) rfl ?_
    show Steps p.tables e below (T4.setTop (mkF m 9 #[.val (.int lim), .val (.int pa), .val (.int pb), .val (.ref ad1), .unset, .unset, .unset, .unset, .unset, .unset, .unset] [])) _
    refine XS.aloadN X4.here hx rfl (hb hby at_9) rfl rfl ?_
    show Steps p.tables e below (T4.setTop (mkF m 10 #[.val (.int lim), .val (.int pa), .val (.int pb), .val (.ref ad1), .unset, .unset, .unset, .unset, .unset, .unset, .unset] [(.ref ad1)])) _
    refine st7.trans ?_
    show Steps p.tables e below (T7.setTop (mkF m 13 #[.val (.int lim), .val (.int pa), .val (.int pb), .val (.ref ad1), .unset, .unset, .unset, .unset, .unset, .unset, .unset] [(.int ((mr_cap lim) - (0 : Int32)))])) _
    refine XS.istore X7.here hx rfl (hb hby at_13) rfl (l' := #[.val (.int lim), .val (.int pa), .val (.int pb), .val (.ref ad1), .val (.int (lo_r lim pa pb)), .unset, .unset, .unset, .unset, .unset, .unset]) rfl ?_
    show Steps p.tables e below (T7.setTop (mkF m 15 #[.val (.int lim), .val (.int pa), .val (.int pb), .val (.ref ad1), .val (.int (lo_r lim pa pb)), .unset, .unset, .unset, .unset, .unset, .unset] [])) _
    refine XS.iload X7.here hx rfl (hb hby at_15) rfl ?_
    show Steps p.tables e below (T7.setTop (mkF m 17 #[.val (.int lim), .val (.int pa), .val (.int pb), .val (.ref ad1), .val (.int (lo_r lim pa pb)), .unset, .unset, .unset, .unset, .unset, .unset] [(.int (lo_r lim pa pb))])) _
    refine XS.ifNo X7.here hx rfl (hb hby at_17) rfl (own_a17 (own_rP hl)) ?_
    show Steps p.tables e below (T7.setTop (mkF m 20 #[.val (.int lim), .val (.int pa), .val (.int pb), .val (.ref ad1), .val (.int (lo_r lim pa pb)), .unset, .unset, .unset, .unset, .unset, .unset] [])) _
    refine XS.iload X7.here hx rfl (hb hby at_20) rfl ?_
    show Steps p.tables e below (T7.setTop (mkF m 22 #[.val (.int lim), .val (.int pa), .val (.int pb), .val (.ref ad1), .val (.int (lo_r lim pa pb)), .unset, .unset, .unset, .unset, .unset, .unset] [(.int (lo_r lim pa pb))])) _
    refine XS.sipush X7.here hx rfl (hb hby at_22) ?_
    show Steps p.tables e below (T7.setTop (mkF m 25 #[.val (.int lim), .val (.int pa), .val (.int pb), .val (.ref ad1), .val (.int (lo_r lim pa pb)), .unset, .unset, .unset, .unset, .unset, .unset] [(.int (8192 : Int32)), (.int (lo_r lim pa pb))])) _
    refine XS.icmpYes X7.here hx rfl (pc0 := 25) (pc' := 30) rfl (hb hby at_25) rfl (own_a25 (own_rP hl)) (by decide) (by decide) ?_
    show Steps p.tables e below (T7.setTop (mkF m 30 #[.val (.int lim), .val (.int pa), .val (.int pb), .val (.ref ad1), .val (.int (lo_r lim pa pb)), .unset, .unset, .unset, .unset, .unset, .unset] [])) _
    refine XS.aloadN X7.here hx rfl (hb hby at_30) rfl rfl ?_
    show Steps p.tables e below (T7.setTop (mkF m 31 #[.val (.int lim), .val (.int pa), .val (.int pb), .val (.ref ad1), .val (.int (lo_r lim pa pb)), .unset, .unset, .unset, .unset, .unset, .unset] [(.ref ad1)])) _
    refine st12.trans ?_
    show Steps p.tables e below (T12.setTop (mkF m 34 #[.val (.int lim), .val (.int pa), .val (.int pb), .val (.ref ad1), .val (.int (lo_r lim pa pb)), .unset, .unset, .unset, .unset, .unset, .unset] [(.ref x7_0)])) _
    refine XS.astore X12.here hx rfl (hb hby at_34) rfl rfl (l' := #[.val (.int lim), .val (.int pa), .val (.int pb), .val (.ref ad1), .val (.int (lo_r lim pa pb)), .val (.ref x7_0), .unset, .unset, .unset, .unset, .unset]) rfl ?_
    show Steps p.tables e below (T12.setTop (mkF m 36 #[.val (.int lim), .val (.int pa), .val (.int pb), .val (.ref ad1), .val (.int (lo_r lim pa pb)), .val (.ref x7_0), .unset, .unset, .unset, .unset, .unset] [])) _
    refine XS.aloadN X12.here hx rfl (hb hby at_36) rfl rfl ?_
    show Steps p.tables e below (T12.setTop (mkF m 37 #[.val (.int lim), .val (.int pa), .val (.int pb), .val (.ref ad1), .val (.int (lo_r lim pa pb)), .val (.ref x7_0), .unset, .unset, .unset, .unset, .unset] [(.ref ad1)])) _
    refine st13.trans ?_
    show Steps p.tables e below (T13.setTop (mkF m 40 #[.val (.int lim), .val (.int pa), .val (.int pb), .val (.ref ad1), .val (.int (lo_r lim pa pb)), .val (.ref x7_0), .unset, .unset, .unset, .unset, .unset] [(.long ((0 : Int64) + (Int32.toInt64 ((mr_cap lim) - (0 : Int32)))))])) _
    refine XT.lstore X13.here hx rfl (hb hby at_40) rfl (l' := #[.val (.int lim), .val (.int pa), .val (.int pb), .val (.ref ad1), .val (.int (lo_r lim pa pb)), .val (.ref x7_0), .val (.long ((0 : Int64) + (Int32.toInt64 ((mr_cap lim) - (0 : Int32))))), .second, .unset, .unset, .unset]) rfl ?_
    show Steps p.tables e below (T13.setTop (mkF m 42 #[.val (.int lim), .val (.int pa), .val (.int pb), .val (.ref ad1), .val (.int (lo_r lim pa pb)), .val (.ref x7_0), .val (.long ((0 : Int64) + (Int32.toInt64 ((mr_cap lim) - (0 : Int32))))), .second, .unset, .unset, .unset] [])) _
    refine XS.iloadN X13.here hx rfl (hb hby at_42) rfl ?_
    show Steps p.tables e below (T13.setTop (mkF m 43 #[.val (.int lim), .val (.int pa), .val (.int pb), .val (.ref ad1), .val (.int (lo_r lim pa pb)), .val (.ref x7_0), .val (.long ((0 : Int64) + (Int32.toInt64 ((mr_cap lim) - (0 : Int32))))), .second, .unset, .unset, .unset] [(.int pa)])) _
    refine X13.ldcI hx hown (mvT hZ (hw _ (List.mem_of_getElem? (i := 70) rfl))) (g := (mkF m 43 #[.val (.int lim), .val (.int pa), .val (.int pb), .val (.ref ad1), .val (.int (lo_r lim pa pb)), .val (.ref x7_0), .val (.long ((0 : Int64) + (Int32.toInt64 ((mr_cap lim) - (0 : Int32))))), .second, .unset, .unset, .unset] [(.int pa)])) rfl (hb hby at_43) ?_
    show Steps p.tables e below (T13.setTop (mkF m 45 #[.val (.int lim), .val (.int pa), .val (.int pb), .val (.ref ad1), .val (.int (lo_r lim pa pb)), .val (.ref x7_0), .val (.long ((0 : Int64) + (Int32.toInt64 ((mr_cap lim) - (0 : Int32))))), .second, .unset, .unset, .unset] [(.int (2147483647 : Int32)), (.int pa)])) _
    refine XS.iand X13.here hx rfl (hb hby at_45) rfl ?_
    show Steps p.tables e below (T13.setTop (mkF m 46 #[.val (.int lim), .val (.int pa), .val (.int pb), .val (.ref ad1), .val (.int (lo_r lim pa pb)), .val (.ref x7_0), .val (.long ((0 : Int64) + (Int32.toInt64 ((mr_cap lim) - (0 : Int32))))), .second, .unset, .unset, .unset] [(.int (pa &&& (2147483647 : Int32)))])) _
    refine XS.iload X13.here hx rfl (hb hby at_46) rfl ?_
    show Steps p.tables e below (T13.setTop (mkF m 48 #[.val (.int lim), .val (.int pa), .val (.int pb), .val (.ref ad1), .val (.int (lo_r lim pa pb)), .val (.ref x7_0), .val (.long ((0 : Int64) + (Int32.toInt64 ((mr_cap lim) - (0 : Int32))))), .second, .unset, .unset, .unset] [(.int (lo_r lim pa pb)), (.int (pa &&& (2147483647 : Int32)))])) _
    refine XS.iconst X13.here hx rfl (hb hby at_48) ?_
    show Steps p.tables e below (T13.setTop (mkF m 49 #[.val (.int lim), .val (.int pa), .val (.int pb), .val (.ref ad1), .val (.int (lo_r lim pa pb)), .val (.ref x7_0), .val (.long ((0 : Int64) + (Int32.toInt64 ((mr_cap lim) - (0 : Int32))))), .second, .unset, .unset, .unset] [(.int (1 : Int32)), (.int (lo_r lim pa pb)), (.int (pa &&& (2147483647 : Int32)))])) _
    refine XS.iadd X13.here hx rfl (hb hby at_49) rfl ?_
    show Steps p.tables e below (T13.setTop (mkF m 50 #[.val (.int lim), .val (.int pa), .val (.int pb), .val (.ref ad1), .val (.int (lo_r lim pa pb)), .val (.ref x7_0), .val (.long ((0 : Int64) + (Int32.toInt64 ((mr_cap lim) - (0 : Int32))))), .second, .unset, .unset, .unset] [(.int ((lo_r lim pa pb) + (1 : Int32))), (.int (pa &&& (2147483647 : Int32)))])) _
    refine XS.irem X13.here hx rfl (hb hby at_50) rfl (own_a50 (own_rP hl)) ?_
    show Steps p.tables e below (T13.setTop (mkF m 51 #[.val (.int lim), .val (.int pa), .val (.int pb), .val (.ref ad1), .val (.int (lo_r lim pa pb)), .val (.ref x7_0), .val (.long ((0 : Int64) + (Int32.toInt64 ((mr_cap lim) - (0 : Int32))))), .second, .unset, .unset, .unset] [(.int ((pa &&& (2147483647 : Int32)) - (pa &&& (2147483647 : Int32)) / ((lo_r lim pa pb) + (1 : Int32)) * ((lo_r lim pa pb) + (1 : Int32))))])) _
    refine XS.istore X13.here hx rfl (hb hby at_51) rfl (l' := #[.val (.int lim), .val (.int pa), .val (.int pb), .val (.ref ad1), .val (.int (lo_r lim pa pb)), .val (.ref x7_0), .val (.long ((0 : Int64) + (Int32.toInt64 ((mr_cap lim) - (0 : Int32))))), .second, .val (.int (lo_x lim pa pb)), .unset, .unset]) rfl ?_
    show Steps p.tables e below (T13.setTop (mkF m 53 #[.val (.int lim), .val (.int pa), .val (.int pb), .val (.ref ad1), .val (.int (lo_r lim pa pb)), .val (.ref x7_0), .val (.long ((0 : Int64) + (Int32.toInt64 ((mr_cap lim) - (0 : Int32))))), .second, .val (.int (lo_x lim pa pb)), .unset, .unset] [])) _
    refine XS.iloadN X13.here hx rfl (hb hby at_53) rfl ?_
    show Steps p.tables e below (T13.setTop (mkF m 54 #[.val (.int lim), .val (.int pa), .val (.int pb), .val (.ref ad1), .val (.int (lo_r lim pa pb)), .val (.ref x7_0), .val (.long ((0 : Int64) + (Int32.toInt64 ((mr_cap lim) - (0 : Int32))))), .second, .val (.int (lo_x lim pa pb)), .unset, .unset] [(.int pb)])) _
    refine X13.ldcI hx hown (mvT hZ (hw _ (List.mem_of_getElem? (i := 70) rfl))) (g := (mkF m 54 #[.val (.int lim), .val (.int pa), .val (.int pb), .val (.ref ad1), .val (.int (lo_r lim pa pb)), .val (.ref x7_0), .val (.long ((0 : Int64) + (Int32.toInt64 ((mr_cap lim) - (0 : Int32))))), .second, .val (.int (lo_x lim pa pb)), .unset, .unset] [(.int pb)])) rfl (hb hby at_54) ?_
    show Steps p.tables e below (T13.setTop (mkF m 56 #[.val (.int lim), .val (.int pa), .val (.int pb), .val (.ref ad1), .val (.int (lo_r lim pa pb)), .val (.ref x7_0), .val (.long ((0 : Int64) + (Int32.toInt64 ((mr_cap lim) - (0 : Int32))))), .second, .val (.int (lo_x lim pa pb)), .unset, .unset] [(.int (2147483647 : Int32)), (.int pb)])) _
    refine XS.iand X13.here hx rfl (hb hby at_56) rfl ?_
    show Steps p.tables e below (T13.setTop (mkF m 57 #[.val (.int lim), .val (.int pa), .val (.int pb), .val (.ref ad1), .val (.int (lo_r lim pa pb)), .val (.ref x7_0), .val (.long ((0 : Int64) + (Int32.toInt64 ((mr_cap lim) - (0 : Int32))))), .second, .val (.int (lo_x lim pa pb)), .unset, .unset] [(.int (pb &&& (2147483647 : Int32)))])) _
    refine XS.iload X13.here hx rfl (hb hby at_57) rfl ?_
    show Steps p.tables e below (T13.setTop (mkF m 59 #[.val (.int lim), .val (.int pa), .val (.int pb), .val (.ref ad1), .val (.int (lo_r lim pa pb)), .val (.ref x7_0), .val (.long ((0 : Int64) + (Int32.toInt64 ((mr_cap lim) - (0 : Int32))))), .second, .val (.int (lo_x lim pa pb)), .unset, .unset] [(.int (lo_r lim pa pb)), (.int (pb &&& (2147483647 : Int32)))])) _
    refine XS.iload X13.here hx rfl (hb hby at_59) rfl ?_
    show Steps p.tables e below (T13.setTop (mkF m 61 #[.val (.int lim), .val (.int pa), .val (.int pb), .val (.ref ad1), .val (.int (lo_r lim pa pb)), .val (.ref x7_0), .val (.long ((0 : Int64) + (Int32.toInt64 ((mr_cap lim) - (0 : Int32))))), .second, .val (.int (lo_x lim pa pb)), .unset, .unset] [(.int (lo_x lim pa pb)), (.int (lo_r lim pa pb)), (.int (pb &&& (2147483647 : Int32)))])) _
    refine XS.isub X13.here hx rfl (hb hby at_61) rfl ?_
    show Steps p.tables e below (T13.setTop (mkF m 62 #[.val (.int lim), .val (.int pa), .val (.int pb), .val (.ref ad1), .val (.int (lo_r lim pa pb)), .val (.ref x7_0), .val (.long ((0 : Int64) + (Int32.toInt64 ((mr_cap lim) - (0 : Int32))))), .second, .val (.int (lo_x lim pa pb)), .unset, .unset] [(.int ((lo_r lim pa pb) - (lo_x lim pa pb))), (.int (pb &&& (2147483647 : Int32)))])) _
    refine XS.iconst X13.here hx rfl (hb hby at_62) ?_
    show Steps p.tables e below (T13.setTop (mkF m 63 #[.val (.int lim), .val (.int pa), .val (.int pb), .val (.ref ad1), .val (.int (lo_r lim pa pb)), .val (.ref x7_0), .val (.long ((0 : Int64) + (Int32.toInt64 ((mr_cap lim) - (0 : Int32))))), .second, .val (.int (lo_x lim pa pb)), .unset, .unset] [(.int (1 : Int32)), (.int ((lo_r lim pa pb) - (lo_x lim pa pb))), (.int (pb &&& (2147483647 : Int32)))])) _
    refine XS.iadd X13.here hx rfl (hb hby at_63) rfl ?_
    show Steps p.tables e below (T13.setTop (mkF m 64 #[.val (.int lim), .val (.int pa), .val (.int pb), .val (.ref ad1), .val (.int (lo_r lim pa pb)), .val (.ref x7_0), .val (.long ((0 : Int64) + (Int32.toInt64 ((mr_cap lim) - (0 : Int32))))), .second, .val (.int (lo_x lim pa pb)), .unset, .unset] [(.int (((lo_r lim pa pb) - (lo_x lim pa pb)) + (1 : Int32))), (.int (pb &&& (2147483647 : Int32)))])) _
    refine XS.irem X13.here hx rfl (hb hby at_64) rfl (own_a64 pa (own_rP hl)) ?_
    show Steps p.tables e below (T13.setTop (mkF m 65 #[.val (.int lim), .val (.int pa), .val (.int pb), .val (.ref ad1), .val (.int (lo_r lim pa pb)), .val (.ref x7_0), .val (.long ((0 : Int64) + (Int32.toInt64 ((mr_cap lim) - (0 : Int32))))), .second, .val (.int (lo_x lim pa pb)), .unset, .unset] [(.int ((pb &&& (2147483647 : Int32)) - (pb &&& (2147483647 : Int32)) / (((lo_r lim pa pb) - (lo_x lim pa pb)) + (1 : Int32)) * (((lo_r lim pa pb) - (lo_x lim pa pb)) + (1 : Int32))))])) _
    refine XS.istore X13.here hx rfl (hb hby at_65) rfl (l' := #[.val (.int lim), .val (.int pa), .val (.int pb), .val (.ref ad1), .val (.int (lo_r lim pa pb)), .val (.ref x7_0), .val (.long ((0 : Int64) + (Int32.toInt64 ((mr_cap lim) - (0 : Int32))))), .second, .val (.int (lo_x lim pa pb)), .val (.int (lo_y lim pa pb)), .unset]) rfl ?_
    show Steps p.tables e below (T13.setTop (mkF m 67 #[.val (.int lim), .val (.int pa), .val (.int pb), .val (.ref ad1), .val (.int (lo_r lim pa pb)), .val (.ref x7_0), .val (.long ((0 : Int64) + (Int32.toInt64 ((mr_cap lim) - (0 : Int32))))), .second, .val (.int (lo_x lim pa pb)), .val (.int (lo_y lim pa pb)), .unset] [])) _
    refine XS.aloadN X13.here hx rfl (hb hby at_67) rfl rfl ?_
    show Steps p.tables e below (T13.setTop (mkF m 68 #[.val (.int lim), .val (.int pa), .val (.int pb), .val (.ref ad1), .val (.int (lo_r lim pa pb)), .val (.ref x7_0), .val (.long ((0 : Int64) + (Int32.toInt64 ((mr_cap lim) - (0 : Int32))))), .second, .val (.int (lo_x lim pa pb)), .val (.int (lo_y lim pa pb)), .unset] [(.ref ad1)])) _
    refine XS.iload X13.here hx rfl (hb hby at_68) rfl ?_
    show Steps p.tables e below (T13.setTop (mkF m 70 #[.val (.int lim), .val (.int pa), .val (.int pb), .val (.ref ad1), .val (.int (lo_r lim pa pb)), .val (.ref x7_0), .val (.long ((0 : Int64) + (Int32.toInt64 ((mr_cap lim) - (0 : Int32))))), .second, .val (.int (lo_x lim pa pb)), .val (.int (lo_y lim pa pb)), .unset] [(.int (lo_x lim pa pb)), (.ref ad1)])) _
    refine st14.trans ?_
    show Steps p.tables e below (T14.setTop (mkF m 73 #[.val (.int lim), .val (.int pa), .val (.int pb), .val (.ref ad1), .val (.int (lo_r lim pa pb)), .val (.ref x7_0), .val (.long ((0 : Int64) + (Int32.toInt64 ((mr_cap lim) - (0 : Int32))))), .second, .val (.int (lo_x lim pa pb)), .val (.int (lo_y lim pa pb)), .unset] [])) _
    refine XS.aloadN X14.here hx rfl (hb hby at_73) rfl rfl ?_
    show Steps p.tables e below (T14.setTop (mkF m 74 #[.val (.int lim), .val (.int pa), .val (.int pb), .val (.ref ad1), .val (.int (lo_r lim pa pb)), .val (.ref x7_0), .val (.long ((0 : Int64) + (Int32.toInt64 ((mr_cap lim) - (0 : Int32))))), .second, .val (.int (lo_x lim pa pb)), .val (.int (lo_y lim pa pb)), .unset] [(.ref ad1)])) _
    refine XS.iload X14.here hx rfl (hb hby at_74) rfl ?_
    show Steps p.tables e below (T14.setTop (mkF m 76 #[.val (.int lim), .val (.int pa), .val (.int pb), .val (.ref ad1), .val (.int (lo_r lim pa pb)), .val (.ref x7_0), .val (.long ((0 : Int64) + (Int32.toInt64 ((mr_cap lim) - (0 : Int32))))), .second, .val (.int (lo_x lim pa pb)), .val (.int (lo_y lim pa pb)), .unset] [(.int (lo_y lim pa pb)), (.ref ad1)])) _
    refine st20.trans ?_
    show Steps p.tables e below (T20.setTop (mkF m 79 #[.val (.int lim), .val (.int pa), .val (.int pb), .val (.ref ad1), .val (.int (lo_r lim pa pb)), .val (.ref x7_0), .val (.long ((0 : Int64) + (Int32.toInt64 ((mr_cap lim) - (0 : Int32))))), .second, .val (.int (lo_x lim pa pb)), .val (.int (lo_y lim pa pb)), .unset] [])) _
    refine XS.aloadN X20.here hx rfl (hb hby at_79) rfl rfl ?_
    show Steps p.tables e below (T20.setTop (mkF m 80 #[.val (.int lim), .val (.int pa), .val (.int pb), .val (.ref ad1), .val (.int (lo_r lim pa pb)), .val (.ref x7_0), .val (.long ((0 : Int64) + (Int32.toInt64 ((mr_cap lim) - (0 : Int32))))), .second, .val (.int (lo_x lim pa pb)), .val (.int (lo_y lim pa pb)), .unset] [(.ref ad1)])) _
    refine st26.trans ?_
    show Steps p.tables e below (T26.setTop (mkF m 83 #[.val (.int lim), .val (.int pa), .val (.int pb), .val (.ref ad1), .val (.int (lo_r lim pa pb)), .val (.ref x7_0), .val (.long ((0 : Int64) + (Int32.toInt64 ((mr_cap lim) - (0 : Int32))))), .second, .val (.int (lo_x lim pa pb)), .val (.int (lo_y lim pa pb)), .unset] [(.int (((0 : Int32) + (lo_x lim pa pb)) + (lo_y lim pa pb)))])) _
    refine XS.iload X26.here hx rfl (hb hby at_83) rfl ?_
    show Steps p.tables e below (T26.setTop (mkF m 85 #[.val (.int lim), .val (.int pa), .val (.int pb), .val (.ref ad1), .val (.int (lo_r lim pa pb)), .val (.ref x7_0), .val (.long ((0 : Int64) + (Int32.toInt64 ((mr_cap lim) - (0 : Int32))))), .second, .val (.int (lo_x lim pa pb)), .val (.int (lo_y lim pa pb)), .unset] [(.int (lo_x lim pa pb)), (.int (((0 : Int32) + (lo_x lim pa pb)) + (lo_y lim pa pb)))])) _
    refine XS.iload X26.here hx rfl (hb hby at_85) rfl ?_
    show Steps p.tables e below (T26.setTop (mkF m 87 #[.val (.int lim), .val (.int pa), .val (.int pb), .val (.ref ad1), .val (.int (lo_r lim pa pb)), .val (.ref x7_0), .val (.long ((0 : Int64) + (Int32.toInt64 ((mr_cap lim) - (0 : Int32))))), .second, .val (.int (lo_x lim pa pb)), .val (.int (lo_y lim pa pb)), .unset] [(.int (lo_y lim pa pb)), (.int (lo_x lim pa pb)), (.int (((0 : Int32) + (lo_x lim pa pb)) + (lo_y lim pa pb)))])) _
    refine XS.iadd X26.here hx rfl (hb hby at_87) rfl ?_
    show Steps p.tables e below (T26.setTop (mkF m 88 #[.val (.int lim), .val (.int pa), .val (.int pb), .val (.ref ad1), .val (.int (lo_r lim pa pb)), .val (.ref x7_0), .val (.long ((0 : Int64) + (Int32.toInt64 ((mr_cap lim) - (0 : Int32))))), .second, .val (.int (lo_x lim pa pb)), .val (.int (lo_y lim pa pb)), .unset] [(.int ((lo_x lim pa pb) + (lo_y lim pa pb))), (.int (((0 : Int32) + (lo_x lim pa pb)) + (lo_y lim pa pb)))])) _
    refine XS.icmpNo X26.here hx rfl (hb hby at_88) rfl (own_eqf (own_zxy _ _)) ?_
    show Steps p.tables e below (T26.setTop (mkF m 91 #[.val (.int lim), .val (.int pa), .val (.int pb), .val (.ref ad1), .val (.int (lo_r lim pa pb)), .val (.ref x7_0), .val (.long ((0 : Int64) + (Int32.toInt64 ((mr_cap lim) - (0 : Int32))))), .second, .val (.int (lo_x lim pa pb)), .val (.int (lo_y lim pa pb)), .unset] [])) _
    refine XS.aloadN X26.here hx rfl (hb hby at_91) rfl rfl ?_
    show Steps p.tables e below (T26.setTop (mkF m 92 #[.val (.int lim), .val (.int pa), .val (.int pb), .val (.ref ad1), .val (.int (lo_r lim pa pb)), .val (.ref x7_0), .val (.long ((0 : Int64) + (Int32.toInt64 ((mr_cap lim) - (0 : Int32))))), .second, .val (.int (lo_x lim pa pb)), .val (.int (lo_y lim pa pb)), .unset] [(.ref ad1)])) _
    refine st27.trans ?_
    show Steps p.tables e below (T27.setTop (mkF m 95 #[.val (.int lim), .val (.int pa), .val (.int pb), .val (.ref ad1), .val (.int (lo_r lim pa pb)), .val (.ref x7_0), .val (.long ((0 : Int64) + (Int32.toInt64 ((mr_cap lim) - (0 : Int32))))), .second, .val (.int (lo_x lim pa pb)), .val (.int (lo_y lim pa pb)), .unset] [(.int (((0 : Int32) + (lo_x lim pa pb)) + (lo_y lim pa pb)))])) _
    refine XS.iload X27.here hx rfl (hb hby at_95) rfl ?_
    show Steps p.tables e below (T27.setTop (mkF m 97 #[.val (.int lim), .val (.int pa), .val (.int pb), .val (.ref ad1), .val (.int (lo_r lim pa pb)), .val (.ref x7_0), .val (.long ((0 : Int64) + (Int32.toInt64 ((mr_cap lim) - (0 : Int32))))), .second, .val (.int (lo_x lim pa pb)), .val (.int (lo_y lim pa pb)), .unset] [(.int (lo_x lim pa pb)), (.int (((0 : Int32) + (lo_x lim pa pb)) + (lo_y lim pa pb)))])) _
    refine XS.iload X27.here hx rfl (hb hby at_97) rfl ?_
    show Steps p.tables e below (T27.setTop (mkF m 99 #[.val (.int lim), .val (.int pa), .val (.int pb), .val (.ref ad1), .val (.int (lo_r lim pa pb)), .val (.ref x7_0), .val (.long ((0 : Int64) + (Int32.toInt64 ((mr_cap lim) - (0 : Int32))))), .second, .val (.int (lo_x lim pa pb)), .val (.int (lo_y lim pa pb)), .unset] [(.int (lo_y lim pa pb)), (.int (lo_x lim pa pb)), (.int (((0 : Int32) + (lo_x lim pa pb)) + (lo_y lim pa pb)))])) _
    refine XS.iadd X27.here hx rfl (hb hby at_99) rfl ?_
    show Steps p.tables e below (T27.setTop (mkF m 100 #[.val (.int lim), .val (.int pa), .val (.int pb), .val (.ref ad1), .val (.int (lo_r lim pa pb)), .val (.ref x7_0), .val (.long ((0 : Int64) + (Int32.toInt64 ((mr_cap lim) - (0 : Int32))))), .second, .val (.int (lo_x lim pa pb)), .val (.int (lo_y lim pa pb)), .unset] [(.int ((lo_x lim pa pb) + (lo_y lim pa pb))), (.int (((0 : Int32) + (lo_x lim pa pb)) + (lo_y lim pa pb)))])) _
    refine XS.icmpNo X27.here hx rfl (hb hby at_100) rfl (own_eqf (own_zxy _ _)) ?_
    show Steps p.tables e below (T27.setTop (mkF m 103 #[.val (.int lim), .val (.int pa), .val (.int pb), .val (.ref ad1), .val (.int (lo_r lim pa pb)), .val (.ref x7_0), .val (.long ((0 : Int64) + (Int32.toInt64 ((mr_cap lim) - (0 : Int32))))), .second, .val (.int (lo_x lim pa pb)), .val (.int (lo_y lim pa pb)), .unset] [])) _
    refine XS.aloadN X27.here hx rfl (hb hby at_103) rfl rfl ?_
    show Steps p.tables e below (T27.setTop (mkF m 104 #[.val (.int lim), .val (.int pa), .val (.int pb), .val (.ref ad1), .val (.int (lo_r lim pa pb)), .val (.ref x7_0), .val (.long ((0 : Int64) + (Int32.toInt64 ((mr_cap lim) - (0 : Int32))))), .second, .val (.int (lo_x lim pa pb)), .val (.int (lo_y lim pa pb)), .unset] [(.ref ad1)])) _
    refine st28.trans ?_
    show Steps p.tables e below (T28.setTop (mkF m 107 #[.val (.int lim), .val (.int pa), .val (.int pb), .val (.ref ad1), .val (.int (lo_r lim pa pb)), .val (.ref x7_0), .val (.long ((0 : Int64) + (Int32.toInt64 ((mr_cap lim) - (0 : Int32))))), .second, .val (.int (lo_x lim pa pb)), .val (.int (lo_y lim pa pb)), .unset] [(.ref x7_0)])) _
    refine XS.aload X28.here hx rfl (hb hby at_107) rfl rfl ?_
    show Steps p.tables e below (T28.setTop (mkF m 109 #[.val (.int lim), .val (.int pa), .val (.int pb), .val (.ref ad1), .val (.int (lo_r lim pa pb)), .val (.ref x7_0), .val (.long ((0 : Int64) + (Int32.toInt64 ((mr_cap lim) - (0 : Int32))))), .second, .val (.int (lo_x lim pa pb)), .val (.int (lo_y lim pa pb)), .unset] [(.ref x7_0), (.ref x7_0)])) _
    refine XT.acmpNo X28.here hx rfl (hb hby at_109) rfl rfl rfl (by simp [XT.acmp]) ?_
    show Steps p.tables e below (T28.setTop (mkF m 112 #[.val (.int lim), .val (.int pa), .val (.int pb), .val (.ref ad1), .val (.int (lo_r lim pa pb)), .val (.ref x7_0), .val (.long ((0 : Int64) + (Int32.toInt64 ((mr_cap lim) - (0 : Int32))))), .second, .val (.int (lo_x lim pa pb)), .val (.int (lo_y lim pa pb)), .unset] [])) _
    refine XS.aloadN X28.here hx rfl (hb hby at_112) rfl rfl ?_
    show Steps p.tables e below (T28.setTop (mkF m 113 #[.val (.int lim), .val (.int pa), .val (.int pb), .val (.ref ad1), .val (.int (lo_r lim pa pb)), .val (.ref x7_0), .val (.long ((0 : Int64) + (Int32.toInt64 ((mr_cap lim) - (0 : Int32))))), .second, .val (.int (lo_x lim pa pb)), .val (.int (lo_y lim pa pb)), .unset] [(.ref ad1)])) _
    refine st29.trans ?_
    show Steps p.tables e below (T29.setTop (mkF m 116 #[.val (.int lim), .val (.int pa), .val (.int pb), .val (.ref ad1), .val (.int (lo_r lim pa pb)), .val (.ref x7_0), .val (.long ((0 : Int64) + (Int32.toInt64 ((mr_cap lim) - (0 : Int32))))), .second, .val (.int (lo_x lim pa pb)), .val (.int (lo_y lim pa pb)), .unset] [(.long ((0 : Int64) + (Int32.toInt64 ((mr_cap lim) - (0 : Int32)))))])) _
    refine XT.lload X29.here hx rfl (hb hby at_116) rfl ?_
    show Steps p.tables e below (T29.setTop (mkF m 118 #[.val (.int lim), .val (.int pa), .val (.int pb), .val (.ref ad1), .val (.int (lo_r lim pa pb)), .val (.ref x7_0), .val (.long ((0 : Int64) + (Int32.toInt64 ((mr_cap lim) - (0 : Int32))))), .second, .val (.int (lo_x lim pa pb)), .val (.int (lo_y lim pa pb)), .unset] [(.long ((0 : Int64) + (Int32.toInt64 ((mr_cap lim) - (0 : Int32))))), (.long ((0 : Int64) + (Int32.toInt64 ((mr_cap lim) - (0 : Int32)))))])) _
    refine XT.lcmp X29.here hx rfl (hb hby at_118) rfl ?_
    show Steps p.tables e below (T29.setTop (mkF m 119 #[.val (.int lim), .val (.int pa), .val (.int pb), .val (.ref ad1), .val (.int (lo_r lim pa pb)), .val (.ref x7_0), .val (.long ((0 : Int64) + (Int32.toInt64 ((mr_cap lim) - (0 : Int32))))), .second, .val (.int (lo_x lim pa pb)), .val (.int (lo_y lim pa pb)), .unset] [(.int (XT.cmpL ((0 : Int64) + (Int32.toInt64 ((mr_cap lim) - (0 : Int32)))) ((0 : Int64) + (Int32.toInt64 ((mr_cap lim) - (0 : Int32))))))])) _
    refine XS.ifNo X29.here hx rfl (hb hby at_119) rfl (own_cmp_self rfl) ?_
    show Steps p.tables e below (T29.setTop (mkF m 122 #[.val (.int lim), .val (.int pa), .val (.int pb), .val (.ref ad1), .val (.int (lo_r lim pa pb)), .val (.ref x7_0), .val (.long ((0 : Int64) + (Int32.toInt64 ((mr_cap lim) - (0 : Int32))))), .second, .val (.int (lo_x lim pa pb)), .val (.int (lo_y lim pa pb)), .unset] [])) _
    refine XS.iconst X29.here hx rfl (hb hby at_122) ?_
    show Steps p.tables e below (T29.setTop (mkF m 123 #[.val (.int lim), .val (.int pa), .val (.int pb), .val (.ref ad1), .val (.int (lo_r lim pa pb)), .val (.ref x7_0), .val (.long ((0 : Int64) + (Int32.toInt64 ((mr_cap lim) - (0 : Int32))))), .second, .val (.int (lo_x lim pa pb)), .val (.int (lo_y lim pa pb)), .unset] [(.int (1 : Int32))])) _
    refine XS.goto X29.here hx rfl (pc0 := 123) (pc' := 127) rfl (hb hby at_123) (by decide) (by decide) ?_
    show Steps p.tables e below (T29.setTop (mkF m 127 #[.val (.int lim), .val (.int pa), .val (.int pb), .val (.ref ad1), .val (.int (lo_r lim pa pb)), .val (.ref x7_0), .val (.long ((0 : Int64) + (Int32.toInt64 ((mr_cap lim) - (0 : Int32))))), .second, .val (.int (lo_x lim pa pb)), .val (.int (lo_y lim pa pb)), .unset] [(.int (1 : Int32))])) _
    refine XS.istore X29.here hx rfl (hb hby at_127) rfl (l' := #[.val (.int lim), .val (.int pa), .val (.int pb), .val (.ref ad1), .val (.int (lo_r lim pa pb)), .val (.ref x7_0), .val (.long ((0 : Int64) + (Int32.toInt64 ((mr_cap lim) - (0 : Int32))))), .second, .val (.int (lo_x lim pa pb)), .val (.int (lo_y lim pa pb)), .val (.int (1 : Int32))]) rfl ?_
    show Steps p.tables e below (T29.setTop (mkF m 129 #[.val (.int lim), .val (.int pa), .val (.int pb), .val (.ref ad1), .val (.int (lo_r lim pa pb)), .val (.ref x7_0), .val (.long ((0 : Int64) + (Int32.toInt64 ((mr_cap lim) - (0 : Int32))))), .second, .val (.int (lo_x lim pa pb)), .val (.int (lo_y lim pa pb)), .val (.int (1 : Int32))] [])) _
    refine XS.iload X29.here hx rfl (hb hby at_129) rfl ?_
    show Steps p.tables e below (T29.setTop (mkF m 131 #[.val (.int lim), .val (.int pa), .val (.int pb), .val (.ref ad1), .val (.int (lo_r lim pa pb)), .val (.ref x7_0), .val (.long ((0 : Int64) + (Int32.toInt64 ((mr_cap lim) - (0 : Int32))))), .second, .val (.int (lo_x lim pa pb)), .val (.int (lo_y lim pa pb)), .val (.int (1 : Int32))] [(.int (1 : Int32))])) _
    refine XS.ifNo X29.here hx rfl (hb hby at_131) rfl rfl ?_
    show Steps p.tables e below (T29.setTop (mkF m 134 #[.val (.int lim), .val (.int pa), .val (.int pb), .val (.ref ad1), .val (.int (lo_r lim pa pb)), .val (.ref x7_0), .val (.long ((0 : Int64) + (Int32.toInt64 ((mr_cap lim) - (0 : Int32))))), .second, .val (.int (lo_x lim pa pb)), .val (.int (lo_y lim pa pb)), .val (.int (1 : Int32))] [])) _
    refine XS.iload X29.here hx rfl (hb hby at_134) rfl ?_
    show Steps p.tables e below (T29.setTop (mkF m 136 #[.val (.int lim), .val (.int pa), .val (.int pb), .val (.ref ad1), .val (.int (lo_r lim pa pb)), .val (.ref x7_0), .val (.long ((0 : Int64) + (Int32.toInt64 ((mr_cap lim) - (0 : Int32))))), .second, .val (.int (lo_x lim pa pb)), .val (.int (lo_y lim pa pb)), .val (.int (1 : Int32))] [(.int (lo_x lim pa pb))])) _
    refine XS.iload X29.here hx rfl (hb hby at_136) rfl ?_
    show Steps p.tables e below (T29.setTop (mkF m 138 #[.val (.int lim), .val (.int pa), .val (.int pb), .val (.ref ad1), .val (.int (lo_r lim pa pb)), .val (.ref x7_0), .val (.long ((0 : Int64) + (Int32.toInt64 ((mr_cap lim) - (0 : Int32))))), .second, .val (.int (lo_x lim pa pb)), .val (.int (lo_y lim pa pb)), .val (.int (1 : Int32))] [(.int (lo_y lim pa pb)), (.int (lo_x lim pa pb))])) _
    refine XS.iadd X29.here hx rfl (hb hby at_138) rfl ?_
    show Steps p.tables e below (T29.setTop (mkF m 139 #[.val (.int lim), .val (.int pa), .val (.int pb), .val (.ref ad1), .val (.int (lo_r lim pa pb)), .val (.ref x7_0), .val (.long ((0 : Int64) + (Int32.toInt64 ((mr_cap lim) - (0 : Int32))))), .second, .val (.int (lo_x lim pa pb)), .val (.int (lo_y lim pa pb)), .val (.int (1 : Int32))] [(.int ((lo_x lim pa pb) + (lo_y lim pa pb)))])) _
    refine XS.iload X29.here hx rfl (hb hby at_139) rfl ?_
    show Steps p.tables e below (T29.setTop (mkF m 141 #[.val (.int lim), .val (.int pa), .val (.int pb), .val (.ref ad1), .val (.int (lo_r lim pa pb)), .val (.ref x7_0), .val (.long ((0 : Int64) + (Int32.toInt64 ((mr_cap lim) - (0 : Int32))))), .second, .val (.int (lo_x lim pa pb)), .val (.int (lo_y lim pa pb)), .val (.int (1 : Int32))] [(.int (lo_r lim pa pb)), (.int ((lo_x lim pa pb) + (lo_y lim pa pb)))])) _
    refine XS.icmpYes X29.here hx rfl (pc0 := 141) (pc' := 166) rfl (hb hby at_141) rfl hq (by decide) (by decide) ?_
    show Steps p.tables e below (T29.setTop (mkF m 166 #[.val (.int lim), .val (.int pa), .val (.int pb), .val (.ref ad1), .val (.int (lo_r lim pa pb)), .val (.ref x7_0), .val (.long ((0 : Int64) + (Int32.toInt64 ((mr_cap lim) - (0 : Int32))))), .second, .val (.int (lo_x lim pa pb)), .val (.int (lo_y lim pa pb)), .val (.int (1 : Int32))] [])) _
    refine XS.iload X29.here hx rfl (hb hby at_166) rfl ?_
    show Steps p.tables e below (T29.setTop (mkF m 168 #[.val (.int lim), .val (.int pa), .val (.int pb), .val (.ref ad1), .val (.int (lo_r lim pa pb)), .val (.ref x7_0), .val (.long ((0 : Int64) + (Int32.toInt64 ((mr_cap lim) - (0 : Int32))))), .second, .val (.int (lo_x lim pa pb)), .val (.int (lo_y lim pa pb)), .val (.int (1 : Int32))] [(.int (1 : Int32))])) _
    exact retN X29 hx (t := .boolean) Bd.returns (by simp) (hb hby at_168) hr
  · show Q_lo Z lim pa pb dv tn la cK kn h0 n0 _ T29.heap _
    exact ⟨rfl, Nn29⟩
theorem ef_lp (m : MethodId) (lim : Int32) (pa : Int32) (pb : Int32) : entryFrame m #[(.int lim), (.int pa), (.int pb)] maxLocals = (mkF m 0 #[.val (.int lim), .val (.int pa), .val (.int pb), .unset, .unset, .unset, .unset, .unset, .unset, .unset, .unset] []) := by first | (simp [entryFrame, mkF, argsToLocals, Value.category, maxLocals]; done) | rfl
def Q_lp (Z : State) (lim : Int32) (pa : Int32) (pb : Int32) (dv : Addr) (tn : Addr) (la : Addr) (cK : ClassId) (kn : ClassId) (h0 : Heap) (n0 : Nat) (v : Option Value) (h : Heap) (L : List Loc) : Prop := v = some (.int 1) ∧ Fr n0 L
set_option maxRecDepth 65536 in
set_option maxHeartbeats 40000000 in
theorem rm_lp (l : Launch) (Z : State) (a0 : Array Value) (hw : ∀ d ∈ tables_1, d.before a0 Z = true) (ws : List Jvm.Cond) (lim : Int32) (pa : Int32) (pb : Int32) (dv : Addr) (tn : Addr) (la : Addr) (cK : ClassId) (kn : ClassId) (h0 : Heap) (n0 : Nat) (Z0 : n0 ≤ h0.size) (k0_ : Old Z n0 h0) (k1_ : Arv Z h0 tn kn .byte (0 : Int32) [] (.int (0 : Int32))) (SD : Sta Z Z.heap "java/util/ArrayList" "DEFAULTCAPACITY_EMPTY_ELEMENTDATA" "[Ljava/lang/Object;" (.ref dv)) (SN : Sta Z Z.heap "com/example/riskloom/riskloom/gateway/http/BodyBuffer" "NONE" "[B" (.ref tn)) (LM : own_Lam Z la cK) (hl : 0 < lim.toInt) (hq : if_icmp.holds .ge ((lp_x lim pa pb) + (lp_y lim pa pb)) (lp_r lim pa pb) = false)  :
    MetFree l x (head1 (Jvm.Cond.code x code maxLocals ret :: ws) room_1) (fun a U => a = #[(.int lim), (.int pa), (.int pb)] ∧ Z.WarmedH U.vm ∧ U.heap = h0) (fun _ _ _ _ _ => True) (fun _ U o U' => ∃ v L, o = .returned v ∧ Q_lp Z lim pa pb dv tn la cK kn h0 n0 v U'.heap L ∧ FrameEnd U o U' L 16 16512) := by
  refine MetFree.of_bodySF (plainFor_of_name pn_4) hisR ?_
  intro p e s m args below meth c s₁ Bd hml0 hP hK
  obtain ⟨rfl, hZH, hh⟩ := hP
  have hZ := hZH.wide
  have hx := Bd.exec
  have hby := Bd.bytes
  have hml : c.maxLocals = 11 := hml0
  have hown : s.vm.findClass "com/example/riskloom/riskloom/gateway/http/BodyBufferAdvancePinLaw" = some m.cls := findClass_of_methodNamed Bd.named
  have hnm := (name_of_methodNamed Bd.named Bd.method).1
  have X0 : Stand p l e room_1 s m #[(.int lim), (.int pa), (.int pb)] below meth c s₁ [] 0 0 := Stand.of_body Bd
  have e0 : s₁.heap = h0 := by rw [← hh, Bd.state]; rfl
  have N0 := Fr.nil n0
  have pre0 : ∀ t, Steps p.tables e below (s₁.setTop (mkF m 0 #[.val (.int lim), .val (.int pa), .val (.int pb), .unset, .unset, .unset, .unset, .unset, .unset, .unset, .unset] [])) t → Steps p.tables e below (s₁.setTop (entryFrame m #[(.int lim), (.int pa), (.int pb)] maxLocals)) t := fun t k => castTop (ef_lp m lim pa pb) k
  obtain ⟨T1, h1, X1, e1, E1, A1, D1, -, st1⟩ := newO X0 hx hZ hown (hw _ (List.mem_of_getElem? (i := 0) rfl)) (hw _ (List.mem_of_getElem? (i := 1) rfl)) (hw _ (List.mem_of_getElem? (i := 2) rfl)) e0 (g := (mkF m 0 #[.val (.int lim), .val (.int pa), .val (.int pb), .unset, .unset, .unset, .unset, .unset, .unset, .unset, .unset] [])) rfl (hb hby at_0) (by decide) (by decide)
  obtain ⟨ad1, g1⟩ : ∃ z, z = (h0).size := ⟨_, rfl⟩
  rw [← g1] at A1 D1 st1
  have ne_tn_ad1 : tn ≠ ad1 := Nat.ne_of_lt (Nat.lt_of_lt_of_le (k1_.lt) (Nat.le_of_eq g1.symm))
  have q2 : Old Z n0 h1 := (k0_.ext E1)
  have q3 : Arv Z h1 tn kn .byte (0 : Int32) [] (.int (0 : Int32)) := (k1_.ext E1)
  have F1_0 : Fld Z h1 ad1 "com/example/riskloom/riskloom/gateway/http/BodyBuffer" "full" "Ljava/util/List;" .null := (D1 (Or.inr (hw _ (List.mem_of_getElem? (i := 40) rfl))) (ty := (.object "java/util/List")) (by decide))
  have F1_1 : Fld Z h1 ad1 "com/example/riskloom/riskloom/gateway/http/BodyBuffer" "last" "[B" .null := (D1 (Or.inl (hw _ (List.mem_of_getElem? (i := 44) rfl))) (ty := (.array .byte)) (by decide))
  have F1_2 : Fld Z h1 ad1 "com/example/riskloom/riskloom/gateway/http/BodyBuffer" "limit" "I" (.int (0 : Int32)) := (D1 (Or.inr (hw _ (List.mem_of_getElem? (i := 46) rfl))) (ty := .int) (by decide))
  have F1_3 : Fld Z h1 ad1 "com/example/riskloom/riskloom/gateway/http/BodyBuffer" "heap" "Ljava/util/function/IntFunction;" .null := (D1 (Or.inr (hw _ (List.mem_of_getElem? (i := 48) rfl))) (ty := (.object "java/util/function/IntFunction")) (by decide))
  have F1_4 : Fld Z h1 ad1 "com/example/riskloom/riskloom/gateway/http/BodyBuffer" "lastLength" "I" (.int (0 : Int32)) := (D1 (Or.inl (hw _ (List.mem_of_getElem? (i := 55) rfl))) (ty := .int) (by decide))
  have F1_5 : Fld Z h1 ad1 "com/example/riskloom/riskloom/gateway/http/BodyBuffer" "length" "I" (.int (0 : Int32)) := (D1 (Or.inl (hw _ (List.mem_of_getElem? (i := 57) rfl))) (ty := .int) (by decide))
  have F1_6 : Fld Z h1 ad1 "com/example/riskloom/riskloom/gateway/http/BodyBuffer" "heldBytes" "J" (.long (0 : Int64)) := (D1 (Or.inl (hw _ (List.mem_of_getElem? (i := 69) rfl))) (ty := .long) (by decide))
  have Z1 : n0 ≤ h1.size := Nat.le_trans Z0 E1.1
  have gn1 : n0 ≤ ad1 := Nat.le_trans Z0 (Nat.le_of_eq g1.symm)
  obtain ⟨_, _, ⟨T4, L4, k4, n4⟩, -, X4, ⟨Lc4, hQ4, l4, y4, z4⟩, st4⟩ := X1.specialBack hx (y := (⟨"com/example/riskloom/riskloom/gateway/http/BodyBuffer", "<init>", "(I)V"⟩ : MethodName)) rfl hown (mvT hZ (hw _ (List.mem_of_getElem? (i := 3) rfl))) (mvT hZ (hw _ (List.mem_of_getElem? (i := 4) rfl))) (mvT hZ (hw _ (List.mem_of_getElem? (i := 5) rfl))) (by decide) (backOf (W := 1) (rm_bj l Z a0 hw [] ad1 lim dv tn la cK (h1) n0 Z1 A1 F1_0 F1_1 F1_2 F1_3 F1_4 F1_5 F1_6 gn1 q2 SD SN LM) hZ (hw _ (List.mem_of_getElem? (i := 5) rfl)) (hw _ (List.mem_of_getElem? (i := 2) rfl)) (by decide) (by decide)) (g := (mkF m 5 #[.val (.int lim), .val (.int pa), .val (.int pb), .unset, .unset, .unset, .unset, .unset, .unset, .unset, .unset] [(.int lim), (.ref ad1), (.ref ad1)])) rfl (by rw [hml]; rfl) (Steps.refl _) (a := ad1) (argsL := [(.int lim)]) (rest := [(.ref ad1)]) (lenOf pd_6 rfl) rfl (by show 2 * 0 + _ ≤ _; exact Nat.le_of_eq rfl) (hb hby at_5) (fun _ _ => ⟨rfl, e1, (by decide : 1 + 1 ≤ _), (by decide : 7 + 3 ≤ _)⟩)
  dsimp only [Pt.U, Pt.locs, Pt.cells, Pt.slots] at X4 l4 y4 z4 st4 hQ4
  rw [l4, y4, z4] at X4
  replace X4 : Stand _ _ _ _ _ _ _ _ _ _ _ _ 2 10 := X4
  obtain ⟨x4_0, vq4, N4, K4, p4_0, p4_1, p4_2, p4_3, p4_4, p4_5, p4_6, p4_7, p4_8, p4_9, p4_10⟩ := hQ4
  rw [vq4] at st4
  have Nn4 := Fr.app N0 N4
  have q5 : Old Z n0 T4.heap := (q2.keep K4 (allS gn1 all0))
  have q6 : Arv Z T4.heap tn kn .byte (0 : Int32) [] (.int (0 : Int32)) := (q3.keep K4 (fun q => ne_tn_ad1 (List.mem_singleton.mp q)))
  have Z4 : n0 ≤ T4.heap.size := Nat.le_trans Z1 K4.1
  obtain ⟨cq7, kq7, qa7, qb7, qc7⟩ := isOf hZ rfl p4_0
  obtain ⟨vv7, _, ⟨T7, L7, k7, n7⟩, -, X7, ⟨_, _, tt7, Lc7, ee7, -, ⟨vw7, Lq7, hv7, hQ7⟩, l7, hL7, y7, z7⟩, st7⟩ := X4.virtualBack hx (y := (⟨"com/example/riskloom/riskloom/gateway/http/BodyBuffer", "room", "()I"⟩ : MethodName)) (z := (⟨"com/example/riskloom/riskloom/gateway/http/BodyBuffer", "room", "()I"⟩ : MethodName)) hown (mvT hZ (hw _ (List.mem_of_getElem? (i := 49) rfl))) (mvT hZ (hw _ (List.mem_of_getElem? (i := 50) rfl))) (notFace_of_selects (args := #[]) (mvT hZ (hw _ (List.mem_of_getElem? (i := 52) rfl)))) (mvT hZ (hw _ (List.mem_of_getElem? (i := 52) rfl))) (mvT hZ (hw _ (List.mem_of_getElem? (i := 51) rfl))) (by decide) (back_of (W := 0) (own_met (rm_r2 l Z a0 hw [] ad1 x4_0 tn lim la kn cK (T4.heap) n0 Z4 p4_0 p4_1 p4_2 p4_3 p4_4 p4_5 p4_6 p4_7 p4_8 p4_9 q6 gn1 q5 p4_10 ne_tn_ad1 LM hl) (n0 := n0) (fun _ _ _ ⟨_, _, _, q, _⟩ => q)) (fun _ _ _ _ h => h) rfl rfl (by decide) (by decide) (fun d hd a' U hU => by rw [List.mem_singleton.mp hd]; exact mvT (wtrans hZ hU) (hw _ (List.mem_of_getElem? (i := 53) rfl))) (List.mem_singleton.mpr rfl) (fun a' U hU => mvT (wtrans hZ hU) (hw _ (List.mem_of_getElem? (i := 2) rfl)))) qa7 qc7 (g := (mkF m 10 #[.val (.int lim), .val (.int pa), .val (.int pb), .val (.ref ad1), .unset, .unset, .unset, .unset, .unset, .unset, .unset] [(.ref ad1)])) rfl (by rw [hml]; rfl) (Steps.refl _) (argsL := []) (rest := []) (lenOf pd_7 rfl) rfl (by show 2 * 0 + _ ≤ _; exact Nat.le_of_eq rfl) (hb hby at_10) (fun vm1 h1 => ⟨(by decide : 2 + 1 ≤ _), (by decide : 10 + 8192 ≤ _), rfl, State.WarmedH.trans hZH h1, rfl⟩)
  dsimp only [Pt.U, Pt.locs, Pt.cells, Pt.slots] at X7 l7 y7 z7 st7 ee7
  rw [← ee7] at hQ7
  have hw7 : vv7 = vw7 := by injection hv7
  rw [hw7] at st7
  rw [l7, y7, z7] at X7
  replace X7 : Stand _ _ _ _ _ _ _ _ _ _ _ _ 3 8202 := X7
  obtain ⟨x7_0, x7_1, vq7, N7, K7, p7_0, p7_1, p7_2, p7_3, p7_4, p7_5, p7_6, p7_7, p7_8, p7_9, p7_10⟩ := hQ7
  rw [vq7] at st7
  have N7 : Fr n0 Lc7 := hL7
  have Nn7 := Fr.app Nn4 N7
  have q8 : Old Z n0 T7.heap := (q5.keep K7 (allS gn1 all0))
  have q9 : Arv Z T7.heap tn kn .byte (0 : Int32) [] (.int (0 : Int32)) := (q6.keep K7 (fun q => ne_tn_ad1 (List.mem_singleton.mp q)))
  have q10 : Exa Z T7.heap x4_0 "java/util/ArrayList" := (p4_8.keep K7)
  have q11 : Fld Z T7.heap x4_0 "java/util/ArrayList" "size" "I" (.int (0 : Int32)) := (p4_9.keep K7 (fun q => p4_10 (List.mem_singleton.mp q)))
  have Z7 : n0 ≤ T7.heap.size := Nat.le_trans Z4 K7.1
  obtain ⟨cq12, kq12, qa12, qb12, qc12⟩ := isOf hZ rfl p7_0
  obtain ⟨_, _, ⟨T12, L12, k12, n12⟩, -, X12, ⟨Lc12, hQ12, l12, y12, z12⟩, st12⟩ := X7.virtualBack hx (y := (⟨"com/example/riskloom/riskloom/gateway/http/BodyBuffer", "array", "()[B"⟩ : MethodName)) (z := (⟨"com/example/riskloom/riskloom/gateway/http/BodyBuffer", "array", "()[B"⟩ : MethodName)) hown (mvT hZ (hw _ (List.mem_of_getElem? (i := 58) rfl))) (mvT hZ (hw _ (List.mem_of_getElem? (i := 59) rfl))) (notFace_of_selects (args := #[]) (mvT hZ (hw _ (List.mem_of_getElem? (i := 61) rfl)))) (mvT hZ (hw _ (List.mem_of_getElem? (i := 61) rfl))) (mvT hZ (hw _ (List.mem_of_getElem? (i := 60) rfl))) (by decide) (backOf (W := 0) (rm_arr l Z a0 hw [] ad1 x7_0 (T7.heap) n0 Z7 p7_2 ) hZ (hw _ (List.mem_of_getElem? (i := 62) rfl)) (hw _ (List.mem_of_getElem? (i := 2) rfl)) (by decide) (by decide)) qa12 qc12 (g := (mkF m 31 #[.val (.int lim), .val (.int pa), .val (.int pb), .val (.ref ad1), .val (.int (lp_r lim pa pb)), .unset, .unset, .unset, .unset, .unset, .unset] [(.ref ad1)])) rfl (by rw [hml]; rfl) (Steps.refl _) (argsL := []) (rest := []) (lenOf pd_8 rfl) rfl (by show 2 * 0 + _ ≤ _; exact Nat.le_of_eq rfl) (hb hby at_31) (fun _ _ => ⟨rfl, rfl, (by decide : 3 + 0 ≤ _), (by decide : 8202 + 0 ≤ _)⟩)
  dsimp only [Pt.U, Pt.locs, Pt.cells, Pt.slots] at X12 l12 y12 z12 st12 hQ12
  rw [l12, y12, z12] at X12
  replace X12 : Stand _ _ _ _ _ _ _ _ _ _ _ _ 3 8202 := X12
  obtain ⟨vq12, N12, e12⟩ := hQ12
  rw [vq12] at st12
  have Nn12 := Fr.app Nn7 N12
  obtain ⟨cq13, kq13, qa13, qb13, qc13⟩ := isOf hZ e12 p7_0
  obtain ⟨_, _, ⟨T13, L13, k13, n13⟩, -, X13, ⟨Lc13, hQ13, l13, y13, z13⟩, st13⟩ := X12.virtualBack hx (y := (⟨"com/example/riskloom/riskloom/gateway/http/BodyBuffer", "heldBytes", "()J"⟩ : MethodName)) (z := (⟨"com/example/riskloom/riskloom/gateway/http/BodyBuffer", "heldBytes", "()J"⟩ : MethodName)) hown (mvT hZ (hw _ (List.mem_of_getElem? (i := 63) rfl))) (mvT hZ (hw _ (List.mem_of_getElem? (i := 64) rfl))) (notFace_of_selects (args := #[]) (mvT hZ (hw _ (List.mem_of_getElem? (i := 66) rfl)))) (mvT hZ (hw _ (List.mem_of_getElem? (i := 66) rfl))) (mvT hZ (hw _ (List.mem_of_getElem? (i := 65) rfl))) (by decide) (backOf (W := 0) (rm_held l Z a0 hw [] ad1 ((0 : Int64) + (Int32.toInt64 ((mr_cap lim) - (0 : Int32)))) (T7.heap) n0 Z7 p7_7 ) hZ (hw _ (List.mem_of_getElem? (i := 67) rfl)) (hw _ (List.mem_of_getElem? (i := 2) rfl)) (by decide) (by decide)) qa13 qc13 (g := (mkF m 37 #[.val (.int lim), .val (.int pa), .val (.int pb), .val (.ref ad1), .val (.int (lp_r lim pa pb)), .val (.ref x7_0), .unset, .unset, .unset, .unset, .unset] [(.ref ad1)])) rfl (by rw [hml]; rfl) (Steps.refl _) (argsL := []) (rest := []) (lenOf pd_9 rfl) rfl (by show 2 * 0 + _ ≤ _; exact Nat.le_of_eq rfl) (hb hby at_37) (fun _ _ => ⟨rfl, e12, (by decide : 3 + 0 ≤ _), (by decide : 8202 + 0 ≤ _)⟩)
  dsimp only [Pt.U, Pt.locs, Pt.cells, Pt.slots] at X13 l13 y13 z13 st13 hQ13
  rw [l13, y13, z13] at X13
  replace X13 : Stand _ _ _ _ _ _ _ _ _ _ _ _ 3 8202 := X13
  obtain ⟨vq13, N13, e13⟩ := hQ13
  rw [vq13] at st13
  have Nn13 := Fr.app Nn12 N13
  obtain ⟨cq14, kq14, qa14, qb14, qc14⟩ := isOf hZ e13 p7_0
  obtain ⟨_, _, ⟨T14, L14, k14, n14⟩, -, X14, ⟨Lc14, hQ14, l14, y14, z14⟩, st14⟩ := X13.virtualBack hx (y := (⟨"com/example/riskloom/riskloom/gateway/http/BodyBuffer", "advance", "(I)V"⟩ : MethodName)) (z := (⟨"com/example/riskloom/riskloom/gateway/http/BodyBuffer", "advance", "(I)V"⟩ : MethodName)) hown (mvT hZ (hw _ (List.mem_of_getElem? (i := 71) rfl))) (mvT hZ (hw _ (List.mem_of_getElem? (i := 72) rfl))) (notFace_of_selects (args := #[]) (mvT hZ (hw _ (List.mem_of_getElem? (i := 74) rfl)))) (mvT hZ (hw _ (List.mem_of_getElem? (i := 74) rfl))) (mvT hZ (hw _ (List.mem_of_getElem? (i := 73) rfl))) (by decide) (backOf (W := 0) (rm_adv l Z a0 hw [] ad1 (lp_x lim pa pb) x4_0 x7_0 lim la (0 : Int32) (0 : Int32) ((0 : Int64) + (Int32.toInt64 ((mr_cap lim) - (0 : Int32)))) (T7.heap) n0 Z7 p7_0 p7_1 p7_2 p7_3 p7_4 p7_5 p7_6 p7_7 gn1 ) hZ (hw _ (List.mem_of_getElem? (i := 75) rfl)) (hw _ (List.mem_of_getElem? (i := 2) rfl)) (by decide) (by decide)) qa14 qc14 (g := (mkF m 70 #[.val (.int lim), .val (.int pa), .val (.int pb), .val (.ref ad1), .val (.int (lp_r lim pa pb)), .val (.ref x7_0), .val (.long ((0 : Int64) + (Int32.toInt64 ((mr_cap lim) - (0 : Int32))))), .second, .val (.int (lp_x lim pa pb)), .val (.int (lp_y lim pa pb)), .unset] [(.int (lp_x lim pa pb)), (.ref ad1)])) rfl (by rw [hml]; rfl) (Steps.refl _) (argsL := [(.int (lp_x lim pa pb))]) (rest := []) (lenOf pd_6 rfl) rfl (by show 2 * 0 + _ ≤ _; exact Nat.le_of_eq rfl) (hb hby at_70) (fun _ _ => ⟨rfl, e13, (by decide : 3 + 0 ≤ _), (by decide : 8202 + 0 ≤ _)⟩)
  dsimp only [Pt.U, Pt.locs, Pt.cells, Pt.slots] at X14 l14 y14 z14 st14 hQ14
  rw [l14, y14, z14] at X14
  replace X14 : Stand _ _ _ _ _ _ _ _ _ _ _ _ 3 8202 := X14
  obtain ⟨vq14, N14, K14, p14_0, p14_1, p14_2, p14_3, p14_4, p14_5, p14_6, p14_7⟩ := hQ14
  rw [vq14] at st14
  have Nn14 := Fr.app Nn13 N14
  have q15 : Old Z n0 T14.heap := (q8.keep K14 (allS gn1 all0))
  have q16 : Arv Z T14.heap tn kn .byte (0 : Int32) [] (.int (0 : Int32)) := (q9.keep K14 (fun q => ne_tn_ad1 (List.mem_singleton.mp q)))
  have q17 : Exa Z T14.heap x4_0 "java/util/ArrayList" := (q10.keep K14)
  have q18 : Fld Z T14.heap x4_0 "java/util/ArrayList" "size" "I" (.int (0 : Int32)) := (q11.keep K14 (fun q => p4_10 (List.mem_singleton.mp q)))
  have q19 : Arv Z T14.heap x7_0 x7_1 .byte (mr_cap lim) [] (.int (0 : Int32)) := (p7_8.keep K14 (fun q => p7_10 (List.mem_singleton.mp q)))
  have Z14 : n0 ≤ T14.heap.size := Nat.le_trans Z7 K14.1
  obtain ⟨cq20, kq20, qa20, qb20, qc20⟩ := isOf hZ rfl p14_0
  obtain ⟨_, _, ⟨T20, L20, k20, n20⟩, -, X20, ⟨Lc20, hQ20, l20, y20, z20⟩, st20⟩ := X14.virtualBack hx (y := (⟨"com/example/riskloom/riskloom/gateway/http/BodyBuffer", "advance", "(I)V"⟩ : MethodName)) (z := (⟨"com/example/riskloom/riskloom/gateway/http/BodyBuffer", "advance", "(I)V"⟩ : MethodName)) hown (mvT hZ (hw _ (List.mem_of_getElem? (i := 71) rfl))) (mvT hZ (hw _ (List.mem_of_getElem? (i := 72) rfl))) (notFace_of_selects (args := #[]) (mvT hZ (hw _ (List.mem_of_getElem? (i := 74) rfl)))) (mvT hZ (hw _ (List.mem_of_getElem? (i := 74) rfl))) (mvT hZ (hw _ (List.mem_of_getElem? (i := 73) rfl))) (by decide) (backOf (W := 0) (rm_adv l Z a0 hw [] ad1 (lp_y lim pa pb) x4_0 x7_0 lim la ((0 : Int32) + (lp_x lim pa pb)) ((0 : Int32) + (lp_x lim pa pb)) ((0 : Int64) + (Int32.toInt64 ((mr_cap lim) - (0 : Int32)))) (T14.heap) n0 Z14 p14_0 p14_1 p14_2 p14_3 p14_4 p14_5 p14_6 p14_7 gn1 ) hZ (hw _ (List.mem_of_getElem? (i := 75) rfl)) (hw _ (List.mem_of_getElem? (i := 2) rfl)) (by decide) (by decide)) qa20 qc20 (g := (mkF m 76 #[.val (.int lim), .val (.int pa), .val (.int pb), .val (.ref ad1), .val (.int (lp_r lim pa pb)), .val (.ref x7_0), .val (.long ((0 : Int64) + (Int32.toInt64 ((mr_cap lim) - (0 : Int32))))), .second, .val (.int (lp_x lim pa pb)), .val (.int (lp_y lim pa pb)), .unset] [(.int (lp_y lim pa pb)), (.ref ad1)])) rfl (by rw [hml]; rfl) (Steps.refl _) (argsL := [(.int (lp_y lim pa pb))]) (rest := []) (lenOf pd_6 rfl) rfl (by show 2 * 0 + _ ≤ _; exact Nat.le_of_eq rfl) (hb hby at_76) (fun _ _ => ⟨rfl, rfl, (by decide : 3 + 0 ≤ _), (by decide : 8202 + 0 ≤ _)⟩)
  dsimp only [Pt.U, Pt.locs, Pt.cells, Pt.slots] at X20 l20 y20 z20 st20 hQ20
  rw [l20, y20, z20] at X20
  replace X20 : Stand _ _ _ _ _ _ _ _ _ _ _ _ 3 8202 := X20
  obtain ⟨vq20, N20, K20, p20_0, p20_1, p20_2, p20_3, p20_4, p20_5, p20_6, p20_7⟩ := hQ20
  rw [vq20] at st20
  have Nn20 := Fr.app Nn14 N20
  have q21 : Old Z n0 T20.heap := (q15.keep K20 (allS gn1 all0))
  have q22 : Arv Z T20.heap tn kn .byte (0 : Int32) [] (.int (0 : Int32)) := (q16.keep K20 (fun q => ne_tn_ad1 (List.mem_singleton.mp q)))
  have q23 : Exa Z T20.heap x4_0 "java/util/ArrayList" := (q17.keep K20)
  have q24 : Fld Z T20.heap x4_0 "java/util/ArrayList" "size" "I" (.int (0 : Int32)) := (q18.keep K20 (fun q => p4_10 (List.mem_singleton.mp q)))
  have q25 : Arv Z T20.heap x7_0 x7_1 .byte (mr_cap lim) [] (.int (0 : Int32)) := (q19.keep K20 (fun q => p7_10 (List.mem_singleton.mp q)))
  have Z20 : n0 ≤ T20.heap.size := Nat.le_trans Z14 K20.1
  obtain ⟨cq26, kq26, qa26, qb26, qc26⟩ := isOf hZ rfl p20_0
  obtain ⟨_, _, ⟨T26, L26, k26, n26⟩, -, X26, ⟨Lc26, hQ26, l26, y26, z26⟩, st26⟩ := X20.virtualBack hx (y := (⟨"com/example/riskloom/riskloom/gateway/http/BodyBuffer", "position", "()I"⟩ : MethodName)) (z := (⟨"com/example/riskloom/riskloom/gateway/http/BodyBuffer", "position", "()I"⟩ : MethodName)) hown (mvT hZ (hw _ (List.mem_of_getElem? (i := 76) rfl))) (mvT hZ (hw _ (List.mem_of_getElem? (i := 77) rfl))) (notFace_of_selects (args := #[]) (mvT hZ (hw _ (List.mem_of_getElem? (i := 79) rfl)))) (mvT hZ (hw _ (List.mem_of_getElem? (i := 79) rfl))) (mvT hZ (hw _ (List.mem_of_getElem? (i := 78) rfl))) (by decide) (backOf (W := 0) (rm_pos l Z a0 hw [] ad1 (((0 : Int32) + (lp_x lim pa pb)) + (lp_y lim pa pb)) (T20.heap) n0 Z20 p20_5 ) hZ (hw _ (List.mem_of_getElem? (i := 80) rfl)) (hw _ (List.mem_of_getElem? (i := 2) rfl)) (by decide) (by decide)) qa26 qc26 (g := (mkF m 80 #[.val (.int lim), .val (.int pa), .val (.int pb), .val (.ref ad1), .val (.int (lp_r lim pa pb)), .val (.ref x7_0), .val (.long ((0 : Int64) + (Int32.toInt64 ((mr_cap lim) - (0 : Int32))))), .second, .val (.int (lp_x lim pa pb)), .val (.int (lp_y lim pa pb)), .unset] [(.ref ad1)])) rfl (by rw [hml]; rfl) (Steps.refl _) (argsL := []) (rest := []) (lenOf pd_7 rfl) rfl (by show 2 * 0 + _ ≤ _; exact Nat.le_of_eq rfl) (hb hby at_80) (fun _ _ => ⟨rfl, rfl, (by decide : 3 + 0 ≤ _), (by decide : 8202 + 0 ≤ _)⟩)
  dsimp only [Pt.U, Pt.locs, Pt.cells, Pt.slots] at X26 l26 y26 z26 st26 hQ26
  rw [l26, y26, z26] at X26
  replace X26 : Stand _ _ _ _ _ _ _ _ _ _ _ _ 3 8202 := X26
  obtain ⟨vq26, N26, e26⟩ := hQ26
  rw [vq26] at st26
  have Nn26 := Fr.app Nn20 N26
  obtain ⟨cq27, kq27, qa27, qb27, qc27⟩ := isOf hZ e26 p20_0
  obtain ⟨_, _, ⟨T27, L27, k27, n27⟩, -, X27, ⟨Lc27, hQ27, l27, y27, z27⟩, st27⟩ := X26.virtualBack hx (y := (⟨"com/example/riskloom/riskloom/gateway/http/BodyBuffer", "length", "()I"⟩ : MethodName)) (z := (⟨"com/example/riskloom/riskloom/gateway/http/BodyBuffer", "length", "()I"⟩ : MethodName)) hown (mvT hZ (hw _ (List.mem_of_getElem? (i := 81) rfl))) (mvT hZ (hw _ (List.mem_of_getElem? (i := 82) rfl))) (notFace_of_selects (args := #[]) (mvT hZ (hw _ (List.mem_of_getElem? (i := 84) rfl)))) (mvT hZ (hw _ (List.mem_of_getElem? (i := 84) rfl))) (mvT hZ (hw _ (List.mem_of_getElem? (i := 83) rfl))) (by decide) (backOf (W := 0) (rm_len l Z a0 hw [] ad1 (((0 : Int32) + (lp_x lim pa pb)) + (lp_y lim pa pb)) (T20.heap) n0 Z20 p20_6 ) hZ (hw _ (List.mem_of_getElem? (i := 85) rfl)) (hw _ (List.mem_of_getElem? (i := 2) rfl)) (by decide) (by decide)) qa27 qc27 (g := (mkF m 92 #[.val (.int lim), .val (.int pa), .val (.int pb), .val (.ref ad1), .val (.int (lp_r lim pa pb)), .val (.ref x7_0), .val (.long ((0 : Int64) + (Int32.toInt64 ((mr_cap lim) - (0 : Int32))))), .second, .val (.int (lp_x lim pa pb)), .val (.int (lp_y lim pa pb)), .unset] [(.ref ad1)])) rfl (by rw [hml]; rfl) (Steps.refl _) (argsL := []) (rest := []) (lenOf pd_7 rfl) rfl (by show 2 * 0 + _ ≤ _; exact Nat.le_of_eq rfl) (hb hby at_92) (fun _ _ => ⟨rfl, e26, (by decide : 3 + 0 ≤ _), (by decide : 8202 + 0 ≤ _)⟩)
  dsimp only [Pt.U, Pt.locs, Pt.cells, Pt.slots] at X27 l27 y27 z27 st27 hQ27
  rw [l27, y27, z27] at X27
  replace X27 : Stand _ _ _ _ _ _ _ _ _ _ _ _ 3 8202 := X27
  obtain ⟨vq27, N27, e27⟩ := hQ27
  rw [vq27] at st27
  have Nn27 := Fr.app Nn26 N27
  obtain ⟨cq28, kq28, qa28, qb28, qc28⟩ := isOf hZ e27 p20_0
  obtain ⟨_, _, ⟨T28, L28, k28, n28⟩, -, X28, ⟨Lc28, hQ28, l28, y28, z28⟩, st28⟩ := X27.virtualBack hx (y := (⟨"com/example/riskloom/riskloom/gateway/http/BodyBuffer", "array", "()[B"⟩ : MethodName)) (z := (⟨"com/example/riskloom/riskloom/gateway/http/BodyBuffer", "array", "()[B"⟩ : MethodName)) hown (mvT hZ (hw _ (List.mem_of_getElem? (i := 58) rfl))) (mvT hZ (hw _ (List.mem_of_getElem? (i := 59) rfl))) (notFace_of_selects (args := #[]) (mvT hZ (hw _ (List.mem_of_getElem? (i := 61) rfl)))) (mvT hZ (hw _ (List.mem_of_getElem? (i := 61) rfl))) (mvT hZ (hw _ (List.mem_of_getElem? (i := 60) rfl))) (by decide) (backOf (W := 0) (rm_arr l Z a0 hw [] ad1 x7_0 (T20.heap) n0 Z20 p20_2 ) hZ (hw _ (List.mem_of_getElem? (i := 62) rfl)) (hw _ (List.mem_of_getElem? (i := 2) rfl)) (by decide) (by decide)) qa28 qc28 (g := (mkF m 104 #[.val (.int lim), .val (.int pa), .val (.int pb), .val (.ref ad1), .val (.int (lp_r lim pa pb)), .val (.ref x7_0), .val (.long ((0 : Int64) + (Int32.toInt64 ((mr_cap lim) - (0 : Int32))))), .second, .val (.int (lp_x lim pa pb)), .val (.int (lp_y lim pa pb)), .unset] [(.ref ad1)])) rfl (by rw [hml]; rfl) (Steps.refl _) (argsL := []) (rest := []) (lenOf pd_8 rfl) rfl (by show 2 * 0 + _ ≤ _; exact Nat.le_of_eq rfl) (hb hby at_104) (fun _ _ => ⟨rfl, e27, (by decide : 3 + 0 ≤ _), (by decide : 8202 + 0 ≤ _)⟩)
  dsimp only [Pt.U, Pt.locs, Pt.cells, Pt.slots] at X28 l28 y28 z28 st28 hQ28
  rw [l28, y28, z28] at X28
  replace X28 : Stand _ _ _ _ _ _ _ _ _ _ _ _ 3 8202 := X28
  obtain ⟨vq28, N28, e28⟩ := hQ28
  rw [vq28] at st28
  have Nn28 := Fr.app Nn27 N28
  obtain ⟨cq29, kq29, qa29, qb29, qc29⟩ := isOf hZ e28 p20_0
  obtain ⟨_, _, ⟨T29, L29, k29, n29⟩, -, X29, ⟨Lc29, hQ29, l29, y29, z29⟩, st29⟩ := X28.virtualBack hx (y := (⟨"com/example/riskloom/riskloom/gateway/http/BodyBuffer", "heldBytes", "()J"⟩ : MethodName)) (z := (⟨"com/example/riskloom/riskloom/gateway/http/BodyBuffer", "heldBytes", "()J"⟩ : MethodName)) hown (mvT hZ (hw _ (List.mem_of_getElem? (i := 63) rfl))) (mvT hZ (hw _ (List.mem_of_getElem? (i := 64) rfl))) (notFace_of_selects (args := #[]) (mvT hZ (hw _ (List.mem_of_getElem? (i := 66) rfl)))) (mvT hZ (hw _ (List.mem_of_getElem? (i := 66) rfl))) (mvT hZ (hw _ (List.mem_of_getElem? (i := 65) rfl))) (by decide) (backOf (W := 0) (rm_held l Z a0 hw [] ad1 ((0 : Int64) + (Int32.toInt64 ((mr_cap lim) - (0 : Int32)))) (T20.heap) n0 Z20 p20_7 ) hZ (hw _ (List.mem_of_getElem? (i := 67) rfl)) (hw _ (List.mem_of_getElem? (i := 2) rfl)) (by decide) (by decide)) qa29 qc29 (g := (mkF m 113 #[.val (.int lim), .val (.int pa), .val (.int pb), .val (.ref ad1), .val (.int (lp_r lim pa pb)), .val (.ref x7_0), .val (.long ((0 : Int64) + (Int32.toInt64 ((mr_cap lim) - (0 : Int32))))), .second, .val (.int (lp_x lim pa pb)), .val (.int (lp_y lim pa pb)), .unset] [(.ref ad1)])) rfl (by rw [hml]; rfl) (Steps.refl _) (argsL := []) (rest := []) (lenOf pd_9 rfl) rfl (by show 2 * 0 + _ ≤ _; exact Nat.le_of_eq rfl) (hb hby at_113) (fun _ _ => ⟨rfl, e28, (by decide : 3 + 0 ≤ _), (by decide : 8202 + 0 ≤ _)⟩)
  dsimp only [Pt.U, Pt.locs, Pt.cells, Pt.slots] at X29 l29 y29 z29 st29 hQ29
  rw [l29, y29, z29] at X29
  replace X29 : Stand _ _ _ _ _ _ _ _ _ _ _ _ 3 8202 := X29
  obtain ⟨vq29, N29, e29⟩ := hQ29
  rw [vq29] at st29
  have Nn29 := Fr.app Nn28 N29
  obtain ⟨cq30, kq30, qa30, qb30, qc30⟩ := isOf hZ e29 p20_0
  obtain ⟨_, _, ⟨T30, L30, k30, n30⟩, -, X30, ⟨Lc30, hQ30, l30, y30, z30⟩, st30⟩ := X29.virtualBack hx (y := (⟨"com/example/riskloom/riskloom/gateway/http/BodyBuffer", "room", "()I"⟩ : MethodName)) (z := (⟨"com/example/riskloom/riskloom/gateway/http/BodyBuffer", "room", "()I"⟩ : MethodName)) hown (mvT hZ (hw _ (List.mem_of_getElem? (i := 49) rfl))) (mvT hZ (hw _ (List.mem_of_getElem? (i := 50) rfl))) (notFace_of_selects (args := #[]) (mvT hZ (hw _ (List.mem_of_getElem? (i := 52) rfl)))) (mvT hZ (hw _ (List.mem_of_getElem? (i := 52) rfl))) (mvT hZ (hw _ (List.mem_of_getElem? (i := 51) rfl))) (by decide) (backOf (W := 0) (rm_r3 l Z a0 hw [] ad1 x4_0 x7_0 lim la (((0 : Int32) + (lp_x lim pa pb)) + (lp_y lim pa pb)) (((0 : Int32) + (lp_x lim pa pb)) + (lp_y lim pa pb)) ((0 : Int64) + (Int32.toInt64 ((mr_cap lim) - (0 : Int32)))) x7_1 (mr_cap lim) (T20.heap) n0 Z20 p20_0 p20_1 p20_2 p20_3 p20_4 p20_5 p20_6 p20_7 q25 (own_a145 hq)) hZ (hw _ (List.mem_of_getElem? (i := 53) rfl)) (hw _ (List.mem_of_getElem? (i := 2) rfl)) (by decide) (by decide)) qa30 qc30 (g := (mkF m 145 #[.val (.int lim), .val (.int pa), .val (.int pb), .val (.ref ad1), .val (.int (lp_r lim pa pb)), .val (.ref x7_0), .val (.long ((0 : Int64) + (Int32.toInt64 ((mr_cap lim) - (0 : Int32))))), .second, .val (.int (lp_x lim pa pb)), .val (.int (lp_y lim pa pb)), .val (.int (1 : Int32))] [(.ref ad1)])) rfl (by rw [hml]; rfl) (Steps.refl _) (argsL := []) (rest := []) (lenOf pd_7 rfl) rfl (by show 2 * 0 + _ ≤ _; exact Nat.le_of_eq rfl) (hb hby at_145) (fun _ _ => ⟨rfl, e29, (by decide : 3 + 0 ≤ _), (by decide : 8202 + 0 ≤ _)⟩)
  dsimp only [Pt.U, Pt.locs, Pt.cells, Pt.slots] at X30 l30 y30 z30 st30 hQ30
  rw [l30, y30, z30] at X30
  replace X30 : Stand _ _ _ _ _ _ _ _ _ _ _ _ 3 8202 := X30
  obtain ⟨vq30, N30, e30⟩ := hQ30
  rw [vq30] at st30
  have Nn30 := Fr.app Nn29 N30
  obtain ⟨fs, hr, hrun, hended, hW, hsame⟩ := X30.leave (v := some (.int (1 : Int32))) (fun h => by rw [Bd.returns] at h; cases h)
  refine ⟨_, _, pre0 _ ?_, hrun, hended, _, _, rfl, ?_, ⟨_, rfl⟩, hW, hsame.mono (Nat.le_of_ble_eq_true rfl) (Nat.le_of_ble_eq_true rfl)⟩
  · show Steps p.tables e below (s₁.setTop (mkF m 0 #[.val (.int lim), .val (.int pa), .val (.int pb), .unset, .unset, .unset, .unset, .unset, .unset, .unset, .unset] [])) _
    refine st1 _ ?_
    show Steps p.tables e below (T1.setTop (mkF m 3 #[.val (.int lim), .val (.int pa), .val (.int pb), .unset, .unset, .unset, .unset, .unset, .unset, .unset, .unset] [(.ref ad1)])) _
    refine XS.dup X1.here hx rfl (hb hby at_3) rfl rfl ?_
    show Steps p.tables e below (T1.setTop (mkF m 4 #[.val (.int lim), .val (.int pa), .val (.int pb), .unset, .unset, .unset, .unset, .unset, .unset, .unset, .unset] [(.ref ad1), (.ref ad1)])) _
    refine XS.iloadN X1.here hx rfl (hb hby at_4) rfl ?_
    show Steps p.tables e below (T1.setTop (mkF m 5 #[.val (.int lim), .val (.int pa), .val (.int pb), .unset, .unset, .unset, .unset, .unset, .unset, .unset, .unset] [(.int lim), (.ref ad1), (.ref ad1)])) _
    refine st4.trans ?_
    show Steps p.tables e below (T4.setTop (mkF m 8 #[.val (.int lim), .val (.int pa), .val (.int pb), .unset, .unset, .unset, .unset, .unset, .unset, .unset, .unset] [(.ref ad1)])) _
    refine XS.astoreN X4.here hx rfl (hb hby at_8) rfl rfl (l' := #[.val (.int lim), .val (.int pa), .val (.int pb), .val (.ref ad1), .unset, .unset, .unset, .unset, .unset, .unset, .unset]) rfl ?_
    show Steps p.tables e below (T4.setTop (mkF m 9 #[.val (.int lim), .val (.int pa), .val (.int pb), .val (.ref ad1), .unset, .unset, .unset, .unset, .unset, .unset, .unset] [])) _
    refine XS.aloadN X4.here hx rfl (hb hby at_9) rfl rfl ?_
    show Steps p.tables e below (T4.setTop (mkF m 10 #[.val (.int lim), .val (.int pa), .val (.int pb), .val (.ref ad1), .unset, .unset, .unset, .unset, .unset, .unset, .unset] [(.ref ad1)])) _
    refine st7.trans ?_
    show Steps p.tables e below (T7.setTop (mkF m 13 #[.val (.int lim), .val (.int pa), .val (.int pb), .val (.ref ad1), .unset, .unset, .unset, .unset, .unset, .unset, .unset] [(.int ((mr_cap lim) - (0 : Int32)))])) _
    refine XS.istore X7.here hx rfl (hb hby at_13) rfl (l' := #[.val (.int lim), .val (.int pa), .val (.int pb), .val (.ref ad1), .val (.int (lp_r lim pa pb)), .unset, .unset, .unset, .unset, .unset, .unset]) rfl ?_
    show Steps p.tables e below (T7.setTop (mkF m 15 #[.val (.int lim), .val (.int pa), .val (.int pb), .val (.ref ad1), .val (.int (lp_r lim pa pb)), .unset, .unset, .unset, .unset, .unset, .unset] [])) _
    refine XS.iload X7.here hx rfl (hb hby at_15) rfl ?_
    show Steps p.tables e below (T7.setTop (mkF m 17 #[.val (.int lim), .val (.int pa), .val (.int pb), .val (.ref ad1), .val (.int (lp_r lim pa pb)), .unset, .unset, .unset, .unset, .unset, .unset] [(.int (lp_r lim pa pb))])) _
    refine XS.ifNo X7.here hx rfl (hb hby at_17) rfl (own_a17 (own_rP hl)) ?_
    show Steps p.tables e below (T7.setTop (mkF m 20 #[.val (.int lim), .val (.int pa), .val (.int pb), .val (.ref ad1), .val (.int (lp_r lim pa pb)), .unset, .unset, .unset, .unset, .unset, .unset] [])) _
    refine XS.iload X7.here hx rfl (hb hby at_20) rfl ?_
    show Steps p.tables e below (T7.setTop (mkF m 22 #[.val (.int lim), .val (.int pa), .val (.int pb), .val (.ref ad1), .val (.int (lp_r lim pa pb)), .unset, .unset, .unset, .unset, .unset, .unset] [(.int (lp_r lim pa pb))])) _
    refine XS.sipush X7.here hx rfl (hb hby at_22) ?_
    show Steps p.tables e below (T7.setTop (mkF m 25 #[.val (.int lim), .val (.int pa), .val (.int pb), .val (.ref ad1), .val (.int (lp_r lim pa pb)), .unset, .unset, .unset, .unset, .unset, .unset] [(.int (8192 : Int32)), (.int (lp_r lim pa pb))])) _
    refine XS.icmpYes X7.here hx rfl (pc0 := 25) (pc' := 30) rfl (hb hby at_25) rfl (own_a25 (own_rP hl)) (by decide) (by decide) ?_
    show Steps p.tables e below (T7.setTop (mkF m 30 #[.val (.int lim), .val (.int pa), .val (.int pb), .val (.ref ad1), .val (.int (lp_r lim pa pb)), .unset, .unset, .unset, .unset, .unset, .unset] [])) _
    refine XS.aloadN X7.here hx rfl (hb hby at_30) rfl rfl ?_
    show Steps p.tables e below (T7.setTop (mkF m 31 #[.val (.int lim), .val (.int pa), .val (.int pb), .val (.ref ad1), .val (.int (lp_r lim pa pb)), .unset, .unset, .unset, .unset, .unset, .unset] [(.ref ad1)])) _
    refine st12.trans ?_
    show Steps p.tables e below (T12.setTop (mkF m 34 #[.val (.int lim), .val (.int pa), .val (.int pb), .val (.ref ad1), .val (.int (lp_r lim pa pb)), .unset, .unset, .unset, .unset, .unset, .unset] [(.ref x7_0)])) _
    refine XS.astore X12.here hx rfl (hb hby at_34) rfl rfl (l' := #[.val (.int lim), .val (.int pa), .val (.int pb), .val (.ref ad1), .val (.int (lp_r lim pa pb)), .val (.ref x7_0), .unset, .unset, .unset, .unset, .unset]) rfl ?_
    show Steps p.tables e below (T12.setTop (mkF m 36 #[.val (.int lim), .val (.int pa), .val (.int pb), .val (.ref ad1), .val (.int (lp_r lim pa pb)), .val (.ref x7_0), .unset, .unset, .unset, .unset, .unset] [])) _
    refine XS.aloadN X12.here hx rfl (hb hby at_36) rfl rfl ?_
    show Steps p.tables e below (T12.setTop (mkF m 37 #[.val (.int lim), .val (.int pa), .val (.int pb), .val (.ref ad1), .val (.int (lp_r lim pa pb)), .val (.ref x7_0), .unset, .unset, .unset, .unset, .unset] [(.ref ad1)])) _
    refine st13.trans ?_
    show Steps p.tables e below (T13.setTop (mkF m 40 #[.val (.int lim), .val (.int pa), .val (.int pb), .val (.ref ad1), .val (.int (lp_r lim pa pb)), .val (.ref x7_0), .unset, .unset, .unset, .unset, .unset] [(.long ((0 : Int64) + (Int32.toInt64 ((mr_cap lim) - (0 : Int32)))))])) _
    refine XT.lstore X13.here hx rfl (hb hby at_40) rfl (l' := #[.val (.int lim), .val (.int pa), .val (.int pb), .val (.ref ad1), .val (.int (lp_r lim pa pb)), .val (.ref x7_0), .val (.long ((0 : Int64) + (Int32.toInt64 ((mr_cap lim) - (0 : Int32))))), .second, .unset, .unset, .unset]) rfl ?_
    show Steps p.tables e below (T13.setTop (mkF m 42 #[.val (.int lim), .val (.int pa), .val (.int pb), .val (.ref ad1), .val (.int (lp_r lim pa pb)), .val (.ref x7_0), .val (.long ((0 : Int64) + (Int32.toInt64 ((mr_cap lim) - (0 : Int32))))), .second, .unset, .unset, .unset] [])) _
    refine XS.iloadN X13.here hx rfl (hb hby at_42) rfl ?_
    show Steps p.tables e below (T13.setTop (mkF m 43 #[.val (.int lim), .val (.int pa), .val (.int pb), .val (.ref ad1), .val (.int (lp_r lim pa pb)), .val (.ref x7_0), .val (.long ((0 : Int64) + (Int32.toInt64 ((mr_cap lim) - (0 : Int32))))), .second, .unset, .unset, .unset] [(.int pa)])) _
    refine X13.ldcI hx hown (mvT hZ (hw _ (List.mem_of_getElem? (i := 70) rfl))) (g := (mkF m 43 #[.val (.int lim), .val (.int pa), .val (.int pb), .val (.ref ad1), .val (.int (lp_r lim pa pb)), .val (.ref x7_0), .val (.long ((0 : Int64) + (Int32.toInt64 ((mr_cap lim) - (0 : Int32))))), .second, .unset, .unset, .unset] [(.int pa)])) rfl (hb hby at_43) ?_
    show Steps p.tables e below (T13.setTop (mkF m 45 #[.val (.int lim), .val (.int pa), .val (.int pb), .val (.ref ad1), .val (.int (lp_r lim pa pb)), .val (.ref x7_0), .val (.long ((0 : Int64) + (Int32.toInt64 ((mr_cap lim) - (0 : Int32))))), .second, .unset, .unset, .unset] [(.int (2147483647 : Int32)), (.int pa)])) _
    refine XS.iand X13.here hx rfl (hb hby at_45) rfl ?_
    show Steps p.tables e below (T13.setTop (mkF m 46 #[.val (.int lim), .val (.int pa), .val (.int pb), .val (.ref ad1), .val (.int (lp_r lim pa pb)), .val (.ref x7_0), .val (.long ((0 : Int64) + (Int32.toInt64 ((mr_cap lim) - (0 : Int32))))), .second, .unset, .unset, .unset] [(.int (pa &&& (2147483647 : Int32)))])) _
    refine XS.iload X13.here hx rfl (hb hby at_46) rfl ?_
    show Steps p.tables e below (T13.setTop (mkF m 48 #[.val (.int lim), .val (.int pa), .val (.int pb), .val (.ref ad1), .val (.int (lp_r lim pa pb)), .val (.ref x7_0), .val (.long ((0 : Int64) + (Int32.toInt64 ((mr_cap lim) - (0 : Int32))))), .second, .unset, .unset, .unset] [(.int (lp_r lim pa pb)), (.int (pa &&& (2147483647 : Int32)))])) _
    refine XS.iconst X13.here hx rfl (hb hby at_48) ?_
    show Steps p.tables e below (T13.setTop (mkF m 49 #[.val (.int lim), .val (.int pa), .val (.int pb), .val (.ref ad1), .val (.int (lp_r lim pa pb)), .val (.ref x7_0), .val (.long ((0 : Int64) + (Int32.toInt64 ((mr_cap lim) - (0 : Int32))))), .second, .unset, .unset, .unset] [(.int (1 : Int32)), (.int (lp_r lim pa pb)), (.int (pa &&& (2147483647 : Int32)))])) _
    refine XS.iadd X13.here hx rfl (hb hby at_49) rfl ?_
    show Steps p.tables e below (T13.setTop (mkF m 50 #[.val (.int lim), .val (.int pa), .val (.int pb), .val (.ref ad1), .val (.int (lp_r lim pa pb)), .val (.ref x7_0), .val (.long ((0 : Int64) + (Int32.toInt64 ((mr_cap lim) - (0 : Int32))))), .second, .unset, .unset, .unset] [(.int ((lp_r lim pa pb) + (1 : Int32))), (.int (pa &&& (2147483647 : Int32)))])) _
    refine XS.irem X13.here hx rfl (hb hby at_50) rfl (own_a50 (own_rP hl)) ?_
    show Steps p.tables e below (T13.setTop (mkF m 51 #[.val (.int lim), .val (.int pa), .val (.int pb), .val (.ref ad1), .val (.int (lp_r lim pa pb)), .val (.ref x7_0), .val (.long ((0 : Int64) + (Int32.toInt64 ((mr_cap lim) - (0 : Int32))))), .second, .unset, .unset, .unset] [(.int ((pa &&& (2147483647 : Int32)) - (pa &&& (2147483647 : Int32)) / ((lp_r lim pa pb) + (1 : Int32)) * ((lp_r lim pa pb) + (1 : Int32))))])) _
    refine XS.istore X13.here hx rfl (hb hby at_51) rfl (l' := #[.val (.int lim), .val (.int pa), .val (.int pb), .val (.ref ad1), .val (.int (lp_r lim pa pb)), .val (.ref x7_0), .val (.long ((0 : Int64) + (Int32.toInt64 ((mr_cap lim) - (0 : Int32))))), .second, .val (.int (lp_x lim pa pb)), .unset, .unset]) rfl ?_
    show Steps p.tables e below (T13.setTop (mkF m 53 #[.val (.int lim), .val (.int pa), .val (.int pb), .val (.ref ad1), .val (.int (lp_r lim pa pb)), .val (.ref x7_0), .val (.long ((0 : Int64) + (Int32.toInt64 ((mr_cap lim) - (0 : Int32))))), .second, .val (.int (lp_x lim pa pb)), .unset, .unset] [])) _
    refine XS.iloadN X13.here hx rfl (hb hby at_53) rfl ?_
    show Steps p.tables e below (T13.setTop (mkF m 54 #[.val (.int lim), .val (.int pa), .val (.int pb), .val (.ref ad1), .val (.int (lp_r lim pa pb)), .val (.ref x7_0), .val (.long ((0 : Int64) + (Int32.toInt64 ((mr_cap lim) - (0 : Int32))))), .second, .val (.int (lp_x lim pa pb)), .unset, .unset] [(.int pb)])) _
    refine X13.ldcI hx hown (mvT hZ (hw _ (List.mem_of_getElem? (i := 70) rfl))) (g := (mkF m 54 #[.val (.int lim), .val (.int pa), .val (.int pb), .val (.ref ad1), .val (.int (lp_r lim pa pb)), .val (.ref x7_0), .val (.long ((0 : Int64) + (Int32.toInt64 ((mr_cap lim) - (0 : Int32))))), .second, .val (.int (lp_x lim pa pb)), .unset, .unset] [(.int pb)])) rfl (hb hby at_54) ?_
    show Steps p.tables e below (T13.setTop (mkF m 56 #[.val (.int lim), .val (.int pa), .val (.int pb), .val (.ref ad1), .val (.int (lp_r lim pa pb)), .val (.ref x7_0), .val (.long ((0 : Int64) + (Int32.toInt64 ((mr_cap lim) - (0 : Int32))))), .second, .val (.int (lp_x lim pa pb)), .unset, .unset] [(.int (2147483647 : Int32)), (.int pb)])) _
    refine XS.iand X13.here hx rfl (hb hby at_56) rfl ?_
    show Steps p.tables e below (T13.setTop (mkF m 57 #[.val (.int lim), .val (.int pa), .val (.int pb), .val (.ref ad1), .val (.int (lp_r lim pa pb)), .val (.ref x7_0), .val (.long ((0 : Int64) + (Int32.toInt64 ((mr_cap lim) - (0 : Int32))))), .second, .val (.int (lp_x lim pa pb)), .unset, .unset] [(.int (pb &&& (2147483647 : Int32)))])) _
    refine XS.iload X13.here hx rfl (hb hby at_57) rfl ?_
    show Steps p.tables e below (T13.setTop (mkF m 59 #[.val (.int lim), .val (.int pa), .val (.int pb), .val (.ref ad1), .val (.int (lp_r lim pa pb)), .val (.ref x7_0), .val (.long ((0 : Int64) + (Int32.toInt64 ((mr_cap lim) - (0 : Int32))))), .second, .val (.int (lp_x lim pa pb)), .unset, .unset] [(.int (lp_r lim pa pb)), (.int (pb &&& (2147483647 : Int32)))])) _
    refine XS.iload X13.here hx rfl (hb hby at_59) rfl ?_
    show Steps p.tables e below (T13.setTop (mkF m 61 #[.val (.int lim), .val (.int pa), .val (.int pb), .val (.ref ad1), .val (.int (lp_r lim pa pb)), .val (.ref x7_0), .val (.long ((0 : Int64) + (Int32.toInt64 ((mr_cap lim) - (0 : Int32))))), .second, .val (.int (lp_x lim pa pb)), .unset, .unset] [(.int (lp_x lim pa pb)), (.int (lp_r lim pa pb)), (.int (pb &&& (2147483647 : Int32)))])) _
    refine XS.isub X13.here hx rfl (hb hby at_61) rfl ?_
    show Steps p.tables e below (T13.setTop (mkF m 62 #[.val (.int lim), .val (.int pa), .val (.int pb), .val (.ref ad1), .val (.int (lp_r lim pa pb)), .val (.ref x7_0), .val (.long ((0 : Int64) + (Int32.toInt64 ((mr_cap lim) - (0 : Int32))))), .second, .val (.int (lp_x lim pa pb)), .unset, .unset] [(.int ((lp_r lim pa pb) - (lp_x lim pa pb))), (.int (pb &&& (2147483647 : Int32)))])) _
    refine XS.iconst X13.here hx rfl (hb hby at_62) ?_
    show Steps p.tables e below (T13.setTop (mkF m 63 #[.val (.int lim), .val (.int pa), .val (.int pb), .val (.ref ad1), .val (.int (lp_r lim pa pb)), .val (.ref x7_0), .val (.long ((0 : Int64) + (Int32.toInt64 ((mr_cap lim) - (0 : Int32))))), .second, .val (.int (lp_x lim pa pb)), .unset, .unset] [(.int (1 : Int32)), (.int ((lp_r lim pa pb) - (lp_x lim pa pb))), (.int (pb &&& (2147483647 : Int32)))])) _
    refine XS.iadd X13.here hx rfl (hb hby at_63) rfl ?_
    show Steps p.tables e below (T13.setTop (mkF m 64 #[.val (.int lim), .val (.int pa), .val (.int pb), .val (.ref ad1), .val (.int (lp_r lim pa pb)), .val (.ref x7_0), .val (.long ((0 : Int64) + (Int32.toInt64 ((mr_cap lim) - (0 : Int32))))), .second, .val (.int (lp_x lim pa pb)), .unset, .unset] [(.int (((lp_r lim pa pb) - (lp_x lim pa pb)) + (1 : Int32))), (.int (pb &&& (2147483647 : Int32)))])) _
    refine XS.irem X13.here hx rfl (hb hby at_64) rfl (own_a64 pa (own_rP hl)) ?_
    show Steps p.tables e below (T13.setTop (mkF m 65 #[.val (.int lim), .val (.int pa), .val (.int pb), .val (.ref ad1), .val (.int (lp_r lim pa pb)), .val (.ref x7_0), .val (.long ((0 : Int64) + (Int32.toInt64 ((mr_cap lim) - (0 : Int32))))), .second, .val (.int (lp_x lim pa pb)), .unset, .unset] [(.int ((pb &&& (2147483647 : Int32)) - (pb &&& (2147483647 : Int32)) / (((lp_r lim pa pb) - (lp_x lim pa pb)) + (1 : Int32)) * (((lp_r lim pa pb) - (lp_x lim pa pb)) + (1 : Int32))))])) _
    refine XS.istore X13.here hx rfl (hb hby at_65) rfl (l' := #[.val (.int lim), .val (.int pa), .val (.int pb), .val (.ref ad1), .val (.int (lp_r lim pa pb)), .val (.ref x7_0), .val (.long ((0 : Int64) + (Int32.toInt64 ((mr_cap lim) - (0 : Int32))))), .second, .val (.int (lp_x lim pa pb)), .val (.int (lp_y lim pa pb)), .unset]) rfl ?_
    show Steps p.tables e below (T13.setTop (mkF m 67 #[.val (.int lim), .val (.int pa), .val (.int pb), .val (.ref ad1), .val (.int (lp_r lim pa pb)), .val (.ref x7_0), .val (.long ((0 : Int64) + (Int32.toInt64 ((mr_cap lim) - (0 : Int32))))), .second, .val (.int (lp_x lim pa pb)), .val (.int (lp_y lim pa pb)), .unset] [])) _
    refine XS.aloadN X13.here hx rfl (hb hby at_67) rfl rfl ?_
    show Steps p.tables e below (T13.setTop (mkF m 68 #[.val (.int lim), .val (.int pa), .val (.int pb), .val (.ref ad1), .val (.int (lp_r lim pa pb)), .val (.ref x7_0), .val (.long ((0 : Int64) + (Int32.toInt64 ((mr_cap lim) - (0 : Int32))))), .second, .val (.int (lp_x lim pa pb)), .val (.int (lp_y lim pa pb)), .unset] [(.ref ad1)])) _
    refine XS.iload X13.here hx rfl (hb hby at_68) rfl ?_
    show Steps p.tables e below (T13.setTop (mkF m 70 #[.val (.int lim), .val (.int pa), .val (.int pb), .val (.ref ad1), .val (.int (lp_r lim pa pb)), .val (.ref x7_0), .val (.long ((0 : Int64) + (Int32.toInt64 ((mr_cap lim) - (0 : Int32))))), .second, .val (.int (lp_x lim pa pb)), .val (.int (lp_y lim pa pb)), .unset] [(.int (lp_x lim pa pb)), (.ref ad1)])) _
    refine st14.trans ?_
    show Steps p.tables e below (T14.setTop (mkF m 73 #[.val (.int lim), .val (.int pa), .val (.int pb), .val (.ref ad1), .val (.int (lp_r lim pa pb)), .val (.ref x7_0), .val (.long ((0 : Int64) + (Int32.toInt64 ((mr_cap lim) - (0 : Int32))))), .second, .val (.int (lp_x lim pa pb)), .val (.int (lp_y lim pa pb)), .unset] [])) _
    refine XS.aloadN X14.here hx rfl (hb hby at_73) rfl rfl ?_
    show Steps p.tables e below (T14.setTop (mkF m 74 #[.val (.int lim), .val (.int pa), .val (.int pb), .val (.ref ad1), .val (.int (lp_r lim pa pb)), .val (.ref x7_0), .val (.long ((0 : Int64) + (Int32.toInt64 ((mr_cap lim) - (0 : Int32))))), .second, .val (.int (lp_x lim pa pb)), .val (.int (lp_y lim pa pb)), .unset] [(.ref ad1)])) _
    refine XS.iload X14.here hx rfl (hb hby at_74) rfl ?_
    show Steps p.tables e below (T14.setTop (mkF m 76 #[.val (.int lim), .val (.int pa), .val (.int pb), .val (.ref ad1), .val (.int (lp_r lim pa pb)), .val (.ref x7_0), .val (.long ((0 : Int64) + (Int32.toInt64 ((mr_cap lim) - (0 : Int32))))), .second, .val (.int (lp_x lim pa pb)), .val (.int (lp_y lim pa pb)), .unset] [(.int (lp_y lim pa pb)), (.ref ad1)])) _
    refine st20.trans ?_
    show Steps p.tables e below (T20.setTop (mkF m 79 #[.val (.int lim), .val (.int pa), .val (.int pb), .val (.ref ad1), .val (.int (lp_r lim pa pb)), .val (.ref x7_0), .val (.long ((0 : Int64) + (Int32.toInt64 ((mr_cap lim) - (0 : Int32))))), .second, .val (.int (lp_x lim pa pb)), .val (.int (lp_y lim pa pb)), .unset] [])) _
    refine XS.aloadN X20.here hx rfl (hb hby at_79) rfl rfl ?_
    show Steps p.tables e below (T20.setTop (mkF m 80 #[.val (.int lim), .val (.int pa), .val (.int pb), .val (.ref ad1), .val (.int (lp_r lim pa pb)), .val (.ref x7_0), .val (.long ((0 : Int64) + (Int32.toInt64 ((mr_cap lim) - (0 : Int32))))), .second, .val (.int (lp_x lim pa pb)), .val (.int (lp_y lim pa pb)), .unset] [(.ref ad1)])) _
    refine st26.trans ?_
    show Steps p.tables e below (T26.setTop (mkF m 83 #[.val (.int lim), .val (.int pa), .val (.int pb), .val (.ref ad1), .val (.int (lp_r lim pa pb)), .val (.ref x7_0), .val (.long ((0 : Int64) + (Int32.toInt64 ((mr_cap lim) - (0 : Int32))))), .second, .val (.int (lp_x lim pa pb)), .val (.int (lp_y lim pa pb)), .unset] [(.int (((0 : Int32) + (lp_x lim pa pb)) + (lp_y lim pa pb)))])) _
    refine XS.iload X26.here hx rfl (hb hby at_83) rfl ?_
    show Steps p.tables e below (T26.setTop (mkF m 85 #[.val (.int lim), .val (.int pa), .val (.int pb), .val (.ref ad1), .val (.int (lp_r lim pa pb)), .val (.ref x7_0), .val (.long ((0 : Int64) + (Int32.toInt64 ((mr_cap lim) - (0 : Int32))))), .second, .val (.int (lp_x lim pa pb)), .val (.int (lp_y lim pa pb)), .unset] [(.int (lp_x lim pa pb)), (.int (((0 : Int32) + (lp_x lim pa pb)) + (lp_y lim pa pb)))])) _
    refine XS.iload X26.here hx rfl (hb hby at_85) rfl ?_
    show Steps p.tables e below (T26.setTop (mkF m 87 #[.val (.int lim), .val (.int pa), .val (.int pb), .val (.ref ad1), .val (.int (lp_r lim pa pb)), .val (.ref x7_0), .val (.long ((0 : Int64) + (Int32.toInt64 ((mr_cap lim) - (0 : Int32))))), .second, .val (.int (lp_x lim pa pb)), .val (.int (lp_y lim pa pb)), .unset] [(.int (lp_y lim pa pb)), (.int (lp_x lim pa pb)), (.int (((0 : Int32) + (lp_x lim pa pb)) + (lp_y lim pa pb)))])) _
    refine XS.iadd X26.here hx rfl (hb hby at_87) rfl ?_
    show Steps p.tables e below (T26.setTop (mkF m 88 #[.val (.int lim), .val (.int pa), .val (.int pb), .val (.ref ad1), .val (.int (lp_r lim pa pb)), .val (.ref x7_0), .val (.long ((0 : Int64) + (Int32.toInt64 ((mr_cap lim) - (0 : Int32))))), .second, .val (.int (lp_x lim pa pb)), .val (.int (lp_y lim pa pb)), .unset] [(.int ((lp_x lim pa pb) + (lp_y lim pa pb))), (.int (((0 : Int32) + (lp_x lim pa pb)) + (lp_y lim pa pb)))])) _
    refine XS.icmpNo X26.here hx rfl (hb hby at_88) rfl (own_eqf (own_zxy _ _)) ?_
    show Steps p.tables e below (T26.setTop (mkF m 91 #[.val (.int lim), .val (.int pa), .val (.int pb), .val (.ref ad1), .val (.int (lp_r lim pa pb)), .val (.ref x7_0), .val (.long ((0 : Int64) + (Int32.toInt64 ((mr_cap lim) - (0 : Int32))))), .second, .val (.int (lp_x lim pa pb)), .val (.int (lp_y lim pa pb)), .unset] [])) _
    refine XS.aloadN X26.here hx rfl (hb hby at_91) rfl rfl ?_
    show Steps p.tables e below (T26.setTop (mkF m 92 #[.val (.int lim), .val (.int pa), .val (.int pb), .val (.ref ad1), .val (.int (lp_r lim pa pb)), .val (.ref x7_0), .val (.long ((0 : Int64) + (Int32.toInt64 ((mr_cap lim) - (0 : Int32))))), .second, .val (.int (lp_x lim pa pb)), .val (.int (lp_y lim pa pb)), .unset] [(.ref ad1)])) _
    refine st27.trans ?_
    show Steps p.tables e below (T27.setTop (mkF m 95 #[.val (.int lim), .val (.int pa), .val (.int pb), .val (.ref ad1), .val (.int (lp_r lim pa pb)), .val (.ref x7_0), .val (.long ((0 : Int64) + (Int32.toInt64 ((mr_cap lim) - (0 : Int32))))), .second, .val (.int (lp_x lim pa pb)), .val (.int (lp_y lim pa pb)), .unset] [(.int (((0 : Int32) + (lp_x lim pa pb)) + (lp_y lim pa pb)))])) _
    refine XS.iload X27.here hx rfl (hb hby at_95) rfl ?_
    show Steps p.tables e below (T27.setTop (mkF m 97 #[.val (.int lim), .val (.int pa), .val (.int pb), .val (.ref ad1), .val (.int (lp_r lim pa pb)), .val (.ref x7_0), .val (.long ((0 : Int64) + (Int32.toInt64 ((mr_cap lim) - (0 : Int32))))), .second, .val (.int (lp_x lim pa pb)), .val (.int (lp_y lim pa pb)), .unset] [(.int (lp_x lim pa pb)), (.int (((0 : Int32) + (lp_x lim pa pb)) + (lp_y lim pa pb)))])) _
    refine XS.iload X27.here hx rfl (hb hby at_97) rfl ?_
    show Steps p.tables e below (T27.setTop (mkF m 99 #[.val (.int lim), .val (.int pa), .val (.int pb), .val (.ref ad1), .val (.int (lp_r lim pa pb)), .val (.ref x7_0), .val (.long ((0 : Int64) + (Int32.toInt64 ((mr_cap lim) - (0 : Int32))))), .second, .val (.int (lp_x lim pa pb)), .val (.int (lp_y lim pa pb)), .unset] [(.int (lp_y lim pa pb)), (.int (lp_x lim pa pb)), (.int (((0 : Int32) + (lp_x lim pa pb)) + (lp_y lim pa pb)))])) _
    refine XS.iadd X27.here hx rfl (hb hby at_99) rfl ?_
    show Steps p.tables e below (T27.setTop (mkF m 100 #[.val (.int lim), .val (.int pa), .val (.int pb), .val (.ref ad1), .val (.int (lp_r lim pa pb)), .val (.ref x7_0), .val (.long ((0 : Int64) + (Int32.toInt64 ((mr_cap lim) - (0 : Int32))))), .second, .val (.int (lp_x lim pa pb)), .val (.int (lp_y lim pa pb)), .unset] [(.int ((lp_x lim pa pb) + (lp_y lim pa pb))), (.int (((0 : Int32) + (lp_x lim pa pb)) + (lp_y lim pa pb)))])) _
    refine XS.icmpNo X27.here hx rfl (hb hby at_100) rfl (own_eqf (own_zxy _ _)) ?_
    show Steps p.tables e below (T27.setTop (mkF m 103 #[.val (.int lim), .val (.int pa), .val (.int pb), .val (.ref ad1), .val (.int (lp_r lim pa pb)), .val (.ref x7_0), .val (.long ((0 : Int64) + (Int32.toInt64 ((mr_cap lim) - (0 : Int32))))), .second, .val (.int (lp_x lim pa pb)), .val (.int (lp_y lim pa pb)), .unset] [])) _
    refine XS.aloadN X27.here hx rfl (hb hby at_103) rfl rfl ?_
    show Steps p.tables e below (T27.setTop (mkF m 104 #[.val (.int lim), .val (.int pa), .val (.int pb), .val (.ref ad1), .val (.int (lp_r lim pa pb)), .val (.ref x7_0), .val (.long ((0 : Int64) + (Int32.toInt64 ((mr_cap lim) - (0 : Int32))))), .second, .val (.int (lp_x lim pa pb)), .val (.int (lp_y lim pa pb)), .unset] [(.ref ad1)])) _
    refine st28.trans ?_
    show Steps p.tables e below (T28.setTop (mkF m 107 #[.val (.int lim), .val (.int pa), .val (.int pb), .val (.ref ad1), .val (.int (lp_r lim pa pb)), .val (.ref x7_0), .val (.long ((0 : Int64) + (Int32.toInt64 ((mr_cap lim) - (0 : Int32))))), .second, .val (.int (lp_x lim pa pb)), .val (.int (lp_y lim pa pb)), .unset] [(.ref x7_0)])) _
    refine XS.aload X28.here hx rfl (hb hby at_107) rfl rfl ?_
    show Steps p.tables e below (T28.setTop (mkF m 109 #[.val (.int lim), .val (.int pa), .val (.int pb), .val (.ref ad1), .val (.int (lp_r lim pa pb)), .val (.ref x7_0), .val (.long ((0 : Int64) + (Int32.toInt64 ((mr_cap lim) - (0 : Int32))))), .second, .val (.int (lp_x lim pa pb)), .val (.int (lp_y lim pa pb)), .unset] [(.ref x7_0), (.ref x7_0)])) _
    refine XT.acmpNo X28.here hx rfl (hb hby at_109) rfl rfl rfl (by simp [XT.acmp]) ?_
    show Steps p.tables e below (T28.setTop (mkF m 112 #[.val (.int lim), .val (.int pa), .val (.int pb), .val (.ref ad1), .val (.int (lp_r lim pa pb)), .val (.ref x7_0), .val (.long ((0 : Int64) + (Int32.toInt64 ((mr_cap lim) - (0 : Int32))))), .second, .val (.int (lp_x lim pa pb)), .val (.int (lp_y lim pa pb)), .unset] [])) _
    refine XS.aloadN X28.here hx rfl (hb hby at_112) rfl rfl ?_
    show Steps p.tables e below (T28.setTop (mkF m 113 #[.val (.int lim), .val (.int pa), .val (.int pb), .val (.ref ad1), .val (.int (lp_r lim pa pb)), .val (.ref x7_0), .val (.long ((0 : Int64) + (Int32.toInt64 ((mr_cap lim) - (0 : Int32))))), .second, .val (.int (lp_x lim pa pb)), .val (.int (lp_y lim pa pb)), .unset] [(.ref ad1)])) _
    refine st29.trans ?_
    show Steps p.tables e below (T29.setTop (mkF m 116 #[.val (.int lim), .val (.int pa), .val (.int pb), .val (.ref ad1), .val (.int (lp_r lim pa pb)), .val (.ref x7_0), .val (.long ((0 : Int64) + (Int32.toInt64 ((mr_cap lim) - (0 : Int32))))), .second, .val (.int (lp_x lim pa pb)), .val (.int (lp_y lim pa pb)), .unset] [(.long ((0 : Int64) + (Int32.toInt64 ((mr_cap lim) - (0 : Int32)))))])) _
    refine XT.lload X29.here hx rfl (hb hby at_116) rfl ?_
    show Steps p.tables e below (T29.setTop (mkF m 118 #[.val (.int lim), .val (.int pa), .val (.int pb), .val (.ref ad1), .val (.int (lp_r lim pa pb)), .val (.ref x7_0), .val (.long ((0 : Int64) + (Int32.toInt64 ((mr_cap lim) - (0 : Int32))))), .second, .val (.int (lp_x lim pa pb)), .val (.int (lp_y lim pa pb)), .unset] [(.long ((0 : Int64) + (Int32.toInt64 ((mr_cap lim) - (0 : Int32))))), (.long ((0 : Int64) + (Int32.toInt64 ((mr_cap lim) - (0 : Int32)))))])) _
    refine XT.lcmp X29.here hx rfl (hb hby at_118) rfl ?_
    show Steps p.tables e below (T29.setTop (mkF m 119 #[.val (.int lim), .val (.int pa), .val (.int pb), .val (.ref ad1), .val (.int (lp_r lim pa pb)), .val (.ref x7_0), .val (.long ((0 : Int64) + (Int32.toInt64 ((mr_cap lim) - (0 : Int32))))), .second, .val (.int (lp_x lim pa pb)), .val (.int (lp_y lim pa pb)), .unset] [(.int (XT.cmpL ((0 : Int64) + (Int32.toInt64 ((mr_cap lim) - (0 : Int32)))) ((0 : Int64) + (Int32.toInt64 ((mr_cap lim) - (0 : Int32))))))])) _
    refine XS.ifNo X29.here hx rfl (hb hby at_119) rfl (own_cmp_self rfl) ?_
    show Steps p.tables e below (T29.setTop (mkF m 122 #[.val (.int lim), .val (.int pa), .val (.int pb), .val (.ref ad1), .val (.int (lp_r lim pa pb)), .val (.ref x7_0), .val (.long ((0 : Int64) + (Int32.toInt64 ((mr_cap lim) - (0 : Int32))))), .second, .val (.int (lp_x lim pa pb)), .val (.int (lp_y lim pa pb)), .unset] [])) _
    refine XS.iconst X29.here hx rfl (hb hby at_122) ?_
    show Steps p.tables e below (T29.setTop (mkF m 123 #[.val (.int lim), .val (.int pa), .val (.int pb), .val (.ref ad1), .val (.int (lp_r lim pa pb)), .val (.ref x7_0), .val (.long ((0 : Int64) + (Int32.toInt64 ((mr_cap lim) - (0 : Int32))))), .second, .val (.int (lp_x lim pa pb)), .val (.int (lp_y lim pa pb)), .unset] [(.int (1 : Int32))])) _
    refine XS.goto X29.here hx rfl (pc0 := 123) (pc' := 127) rfl (hb hby at_123) (by decide) (by decide) ?_
    show Steps p.tables e below (T29.setTop (mkF m 127 #[.val (.int lim), .val (.int pa), .val (.int pb), .val (.ref ad1), .val (.int (lp_r lim pa pb)), .val (.ref x7_0), .val (.long ((0 : Int64) + (Int32.toInt64 ((mr_cap lim) - (0 : Int32))))), .second, .val (.int (lp_x lim pa pb)), .val (.int (lp_y lim pa pb)), .unset] [(.int (1 : Int32))])) _
    refine XS.istore X29.here hx rfl (hb hby at_127) rfl (l' := #[.val (.int lim), .val (.int pa), .val (.int pb), .val (.ref ad1), .val (.int (lp_r lim pa pb)), .val (.ref x7_0), .val (.long ((0 : Int64) + (Int32.toInt64 ((mr_cap lim) - (0 : Int32))))), .second, .val (.int (lp_x lim pa pb)), .val (.int (lp_y lim pa pb)), .val (.int (1 : Int32))]) rfl ?_
    show Steps p.tables e below (T29.setTop (mkF m 129 #[.val (.int lim), .val (.int pa), .val (.int pb), .val (.ref ad1), .val (.int (lp_r lim pa pb)), .val (.ref x7_0), .val (.long ((0 : Int64) + (Int32.toInt64 ((mr_cap lim) - (0 : Int32))))), .second, .val (.int (lp_x lim pa pb)), .val (.int (lp_y lim pa pb)), .val (.int (1 : Int32))] [])) _
    refine XS.iload X29.here hx rfl (hb hby at_129) rfl ?_
    show Steps p.tables e below (T29.setTop (mkF m 131 #[.val (.int lim), .val (.int pa), .val (.int pb), .val (.ref ad1), .val (.int (lp_r lim pa pb)), .val (.ref x7_0), .val (.long ((0 : Int64) + (Int32.toInt64 ((mr_cap lim) - (0 : Int32))))), .second, .val (.int (lp_x lim pa pb)), .val (.int (lp_y lim pa pb)), .val (.int (1 : Int32))] [(.int (1 : Int32))])) _
    refine XS.ifNo X29.here hx rfl (hb hby at_131) rfl rfl ?_
    show Steps p.tables e below (T29.setTop (mkF m 134 #[.val (.int lim), .val (.int pa), .val (.int pb), .val (.ref ad1), .val (.int (lp_r lim pa pb)), .val (.ref x7_0), .val (.long ((0 : Int64) + (Int32.toInt64 ((mr_cap lim) - (0 : Int32))))), .second, .val (.int (lp_x lim pa pb)), .val (.int (lp_y lim pa pb)), .val (.int (1 : Int32))] [])) _
    refine XS.iload X29.here hx rfl (hb hby at_134) rfl ?_
    show Steps p.tables e below (T29.setTop (mkF m 136 #[.val (.int lim), .val (.int pa), .val (.int pb), .val (.ref ad1), .val (.int (lp_r lim pa pb)), .val (.ref x7_0), .val (.long ((0 : Int64) + (Int32.toInt64 ((mr_cap lim) - (0 : Int32))))), .second, .val (.int (lp_x lim pa pb)), .val (.int (lp_y lim pa pb)), .val (.int (1 : Int32))] [(.int (lp_x lim pa pb))])) _
    refine XS.iload X29.here hx rfl (hb hby at_136) rfl ?_
    show Steps p.tables e below (T29.setTop (mkF m 138 #[.val (.int lim), .val (.int pa), .val (.int pb), .val (.ref ad1), .val (.int (lp_r lim pa pb)), .val (.ref x7_0), .val (.long ((0 : Int64) + (Int32.toInt64 ((mr_cap lim) - (0 : Int32))))), .second, .val (.int (lp_x lim pa pb)), .val (.int (lp_y lim pa pb)), .val (.int (1 : Int32))] [(.int (lp_y lim pa pb)), (.int (lp_x lim pa pb))])) _
    refine XS.iadd X29.here hx rfl (hb hby at_138) rfl ?_
    show Steps p.tables e below (T29.setTop (mkF m 139 #[.val (.int lim), .val (.int pa), .val (.int pb), .val (.ref ad1), .val (.int (lp_r lim pa pb)), .val (.ref x7_0), .val (.long ((0 : Int64) + (Int32.toInt64 ((mr_cap lim) - (0 : Int32))))), .second, .val (.int (lp_x lim pa pb)), .val (.int (lp_y lim pa pb)), .val (.int (1 : Int32))] [(.int ((lp_x lim pa pb) + (lp_y lim pa pb)))])) _
    refine XS.iload X29.here hx rfl (hb hby at_139) rfl ?_
    show Steps p.tables e below (T29.setTop (mkF m 141 #[.val (.int lim), .val (.int pa), .val (.int pb), .val (.ref ad1), .val (.int (lp_r lim pa pb)), .val (.ref x7_0), .val (.long ((0 : Int64) + (Int32.toInt64 ((mr_cap lim) - (0 : Int32))))), .second, .val (.int (lp_x lim pa pb)), .val (.int (lp_y lim pa pb)), .val (.int (1 : Int32))] [(.int (lp_r lim pa pb)), (.int ((lp_x lim pa pb) + (lp_y lim pa pb)))])) _
    refine XS.icmpNo X29.here hx rfl (hb hby at_141) rfl hq ?_
    show Steps p.tables e below (T29.setTop (mkF m 144 #[.val (.int lim), .val (.int pa), .val (.int pb), .val (.ref ad1), .val (.int (lp_r lim pa pb)), .val (.ref x7_0), .val (.long ((0 : Int64) + (Int32.toInt64 ((mr_cap lim) - (0 : Int32))))), .second, .val (.int (lp_x lim pa pb)), .val (.int (lp_y lim pa pb)), .val (.int (1 : Int32))] [])) _
    refine XS.aloadN X29.here hx rfl (hb hby at_144) rfl rfl ?_
    show Steps p.tables e below (T29.setTop (mkF m 145 #[.val (.int lim), .val (.int pa), .val (.int pb), .val (.ref ad1), .val (.int (lp_r lim pa pb)), .val (.ref x7_0), .val (.long ((0 : Int64) + (Int32.toInt64 ((mr_cap lim) - (0 : Int32))))), .second, .val (.int (lp_x lim pa pb)), .val (.int (lp_y lim pa pb)), .val (.int (1 : Int32))] [(.ref ad1)])) _
    refine st30.trans ?_
    show Steps p.tables e below (T30.setTop (mkF m 148 #[.val (.int lim), .val (.int pa), .val (.int pb), .val (.ref ad1), .val (.int (lp_r lim pa pb)), .val (.ref x7_0), .val (.long ((0 : Int64) + (Int32.toInt64 ((mr_cap lim) - (0 : Int32))))), .second, .val (.int (lp_x lim pa pb)), .val (.int (lp_y lim pa pb)), .val (.int (1 : Int32))] [(.int ((mr_cap lim) - (((0 : Int32) + (lp_x lim pa pb)) + (lp_y lim pa pb))))])) _
    refine XS.iload X30.here hx rfl (hb hby at_148) rfl ?_
    show Steps p.tables e below (T30.setTop (mkF m 150 #[.val (.int lim), .val (.int pa), .val (.int pb), .val (.ref ad1), .val (.int (lp_r lim pa pb)), .val (.ref x7_0), .val (.long ((0 : Int64) + (Int32.toInt64 ((mr_cap lim) - (0 : Int32))))), .second, .val (.int (lp_x lim pa pb)), .val (.int (lp_y lim pa pb)), .val (.int (1 : Int32))] [(.int (lp_r lim pa pb)), (.int ((mr_cap lim) - (((0 : Int32) + (lp_x lim pa pb)) + (lp_y lim pa pb))))])) _
    refine XS.iload X30.here hx rfl (hb hby at_150) rfl ?_
    show Steps p.tables e below (T30.setTop (mkF m 152 #[.val (.int lim), .val (.int pa), .val (.int pb), .val (.ref ad1), .val (.int (lp_r lim pa pb)), .val (.ref x7_0), .val (.long ((0 : Int64) + (Int32.toInt64 ((mr_cap lim) - (0 : Int32))))), .second, .val (.int (lp_x lim pa pb)), .val (.int (lp_y lim pa pb)), .val (.int (1 : Int32))] [(.int (lp_x lim pa pb)), (.int (lp_r lim pa pb)), (.int ((mr_cap lim) - (((0 : Int32) + (lp_x lim pa pb)) + (lp_y lim pa pb))))])) _
    refine XS.isub X30.here hx rfl (hb hby at_152) rfl ?_
    show Steps p.tables e below (T30.setTop (mkF m 153 #[.val (.int lim), .val (.int pa), .val (.int pb), .val (.ref ad1), .val (.int (lp_r lim pa pb)), .val (.ref x7_0), .val (.long ((0 : Int64) + (Int32.toInt64 ((mr_cap lim) - (0 : Int32))))), .second, .val (.int (lp_x lim pa pb)), .val (.int (lp_y lim pa pb)), .val (.int (1 : Int32))] [(.int ((lp_r lim pa pb) - (lp_x lim pa pb))), (.int ((mr_cap lim) - (((0 : Int32) + (lp_x lim pa pb)) + (lp_y lim pa pb))))])) _
    refine XS.iload X30.here hx rfl (hb hby at_153) rfl ?_
    show Steps p.tables e below (T30.setTop (mkF m 155 #[.val (.int lim), .val (.int pa), .val (.int pb), .val (.ref ad1), .val (.int (lp_r lim pa pb)), .val (.ref x7_0), .val (.long ((0 : Int64) + (Int32.toInt64 ((mr_cap lim) - (0 : Int32))))), .second, .val (.int (lp_x lim pa pb)), .val (.int (lp_y lim pa pb)), .val (.int (1 : Int32))] [(.int (lp_y lim pa pb)), (.int ((lp_r lim pa pb) - (lp_x lim pa pb))), (.int ((mr_cap lim) - (((0 : Int32) + (lp_x lim pa pb)) + (lp_y lim pa pb))))])) _
    refine XS.isub X30.here hx rfl (hb hby at_155) rfl ?_
    show Steps p.tables e below (T30.setTop (mkF m 156 #[.val (.int lim), .val (.int pa), .val (.int pb), .val (.ref ad1), .val (.int (lp_r lim pa pb)), .val (.ref x7_0), .val (.long ((0 : Int64) + (Int32.toInt64 ((mr_cap lim) - (0 : Int32))))), .second, .val (.int (lp_x lim pa pb)), .val (.int (lp_y lim pa pb)), .val (.int (1 : Int32))] [(.int (((lp_r lim pa pb) - (lp_x lim pa pb)) - (lp_y lim pa pb))), (.int ((mr_cap lim) - (((0 : Int32) + (lp_x lim pa pb)) + (lp_y lim pa pb))))])) _
    refine XS.icmpNo X30.here hx rfl (hb hby at_156) rfl (own_eqf (own_cxy _ _ _)) ?_
    show Steps p.tables e below (T30.setTop (mkF m 159 #[.val (.int lim), .val (.int pa), .val (.int pb), .val (.ref ad1), .val (.int (lp_r lim pa pb)), .val (.ref x7_0), .val (.long ((0 : Int64) + (Int32.toInt64 ((mr_cap lim) - (0 : Int32))))), .second, .val (.int (lp_x lim pa pb)), .val (.int (lp_y lim pa pb)), .val (.int (1 : Int32))] [])) _
    refine XS.iconst X30.here hx rfl (hb hby at_159) ?_
    show Steps p.tables e below (T30.setTop (mkF m 160 #[.val (.int lim), .val (.int pa), .val (.int pb), .val (.ref ad1), .val (.int (lp_r lim pa pb)), .val (.ref x7_0), .val (.long ((0 : Int64) + (Int32.toInt64 ((mr_cap lim) - (0 : Int32))))), .second, .val (.int (lp_x lim pa pb)), .val (.int (lp_y lim pa pb)), .val (.int (1 : Int32))] [(.int (1 : Int32))])) _
    refine XS.goto X30.here hx rfl (pc0 := 160) (pc' := 164) rfl (hb hby at_160) (by decide) (by decide) ?_
    show Steps p.tables e below (T30.setTop (mkF m 164 #[.val (.int lim), .val (.int pa), .val (.int pb), .val (.ref ad1), .val (.int (lp_r lim pa pb)), .val (.ref x7_0), .val (.long ((0 : Int64) + (Int32.toInt64 ((mr_cap lim) - (0 : Int32))))), .second, .val (.int (lp_x lim pa pb)), .val (.int (lp_y lim pa pb)), .val (.int (1 : Int32))] [(.int (1 : Int32))])) _
    refine XS.istore X30.here hx rfl (hb hby at_164) rfl (l' := #[.val (.int lim), .val (.int pa), .val (.int pb), .val (.ref ad1), .val (.int (lp_r lim pa pb)), .val (.ref x7_0), .val (.long ((0 : Int64) + (Int32.toInt64 ((mr_cap lim) - (0 : Int32))))), .second, .val (.int (lp_x lim pa pb)), .val (.int (lp_y lim pa pb)), .val (.int (1 : Int32))]) rfl ?_
    show Steps p.tables e below (T30.setTop (mkF m 166 #[.val (.int lim), .val (.int pa), .val (.int pb), .val (.ref ad1), .val (.int (lp_r lim pa pb)), .val (.ref x7_0), .val (.long ((0 : Int64) + (Int32.toInt64 ((mr_cap lim) - (0 : Int32))))), .second, .val (.int (lp_x lim pa pb)), .val (.int (lp_y lim pa pb)), .val (.int (1 : Int32))] [])) _
    refine XS.iload X30.here hx rfl (hb hby at_166) rfl ?_
    show Steps p.tables e below (T30.setTop (mkF m 168 #[.val (.int lim), .val (.int pa), .val (.int pb), .val (.ref ad1), .val (.int (lp_r lim pa pb)), .val (.ref x7_0), .val (.long ((0 : Int64) + (Int32.toInt64 ((mr_cap lim) - (0 : Int32))))), .second, .val (.int (lp_x lim pa pb)), .val (.int (lp_y lim pa pb)), .val (.int (1 : Int32))] [(.int (1 : Int32))])) _
    exact retN X30 hx (t := .boolean) Bd.returns (by simp) (hb hby at_168) hr
  · show Q_lp Z lim pa pb dv tn la cK kn h0 n0 _ T30.heap _
    exact ⟨rfl, Nn30⟩
set_option maxRecDepth 65536 in
set_option maxHeartbeats 40000000 in
theorem rm_law (l : Launch) (Z : State) (a0 : Array Value) (hw : ∀ d ∈ tables_1, d.before a0 Z = true) (ws : List Jvm.Cond) (lim : Int32) (pa : Int32) (pb : Int32) (dv : Addr) (tn : Addr) (la : Addr) (cK : ClassId) (kn : ClassId) (h0 : Heap) (n0 : Nat) (Z0 : n0 ≤ h0.size) (k0_ : Old Z n0 h0) (k1_ : Arv Z h0 tn kn .byte (0 : Int32) [] (.int (0 : Int32))) (SD : Sta Z Z.heap "java/util/ArrayList" "DEFAULTCAPACITY_EMPTY_ELEMENTDATA" "[Ljava/lang/Object;" (.ref dv)) (SN : Sta Z Z.heap "com/example/riskloom/riskloom/gateway/http/BodyBuffer" "NONE" "[B" (.ref tn)) (LM : own_Lam Z la cK)  :
    MetFree l x (head1 (Jvm.Cond.code x code maxLocals ret :: ws) room_1) (fun a U => a = #[(.int lim), (.int pa), (.int pb)] ∧ Z.WarmedH U.vm ∧ U.heap = h0) (fun _ _ _ _ _ => True) (fun _ U o U' => ∃ v L, o = .returned v ∧ Q_ln Z lim pa pb dv tn la cK kn h0 n0 v U'.heap L ∧ FrameEnd U o U' L 16 16512) := by
  rcases hl : if_icmp.holds .ge (0 : Int32) lim with _ | _
  · have hl2 : 0 < lim.toInt := by
      have e0 : (0 : Int32).toInt = 0 := rfl
      have q : ¬ lim.toInt ≤ (0 : Int32).toInt := fun q => by rw [(own_c_ge _ _).mpr q] at hl; cases hl
      omega
    rcases hq : if_icmp.holds .ge ((lp_x lim pa pb) + (lp_y lim pa pb)) (lp_r lim pa pb) with _ | _
    · exact rm_lp l Z a0 hw ws lim pa pb dv tn la cK kn h0 n0 Z0 k0_ k1_ SD SN LM hl2 hq
    · exact rm_lo l Z a0 hw ws lim pa pb dv tn la cK kn h0 n0 Z0 k0_ k1_ SD SN LM hl2 hq
  · exact rm_ln l Z a0 hw ws lim pa pb dv tn la cK kn h0 n0 Z0 k0_ k1_ SD SN LM hl
theorem own_wrefl (s : State) : s.WarmedH s.vm := State.WarmedH.refl s
set_option maxRecDepth 65536 in
set_option maxHeartbeats 40000000 in
theorem comes_1 {Post : Tables → Env → Array Value → State → Outcome → State → Prop} (hpost : ∀ tb e args s v u, (limb_1_1.after args s (.returned v) u = true ∧ limb_1_2.after args s (.returned v) u = true ∧ True) → FrameEnd s (.returned v) u (Jvm.fieldLocs frame_1_writes args s ++ Jvm.arrayLocs frame_1_arrays args s ++ Jvm.staticLocs frame_1_statics s) 16 16512 → Post tb e args s (.returned v) u) :
    ArmFor flags0 classFile x code maxLocals ret World_1 tables_1 room_1 Calls_1 rest_1 Pre_1 Post := by
  intro l hfl _ _ p e ha hc hk s m args below hf hA hF happ hP
  obtain ⟨hcalls, hrest, hpre⟩ := hP
  obtain ⟨-, -, -, hnamed, -, -, -, hat⟩ := (Spec.applies_iff hf).mp happ
  obtain ⟨hg, hn⟩ := and_e (Cond.before_iff.mp (show (Jvm.Cond.and given_1 narrow_1).before args s = true from hpre))
  obtain ⟨h1, g0⟩ := and_e hg
  obtain ⟨i0, g1⟩ := and_e g0
  obtain ⟨i1, g2⟩ := and_e g1
  obtain ⟨w0, w1, w2, rfl⟩ : ∃ w0 w1 w2 : Value, args = #[w0, w1, w2] := by
    have hs : args.size = 3 := by simpa [Cond.value, given_1] using h1
    obtain ⟨L⟩ := args
    match L, hs with
    | [w0, w1, w2], _ => exact ⟨w0, w1, w2, rfl⟩
  have hw := fun d (hd : d ∈ tables_1) => atoms_spec (ws := Jvm.Cond.code x code maxLocals ret :: tables_1) hat d (List.mem_cons_of_mem _ hd)
  obtain ⟨v0, e0⟩ := is_v i0
  obtain rfl : w0 = (.int v0) := Option.some.inj e0
  obtain ⟨v1, e1⟩ := is_v i1
  obtain rfl : w1 = (.int v1) := Option.some.inj e1
  obtain ⟨v2, e2⟩ := is_v g2
  obtain rfl : w2 = (.int v2) := Option.some.inj e2
  obtain ⟨hsets, hown0⟩ := atoms_of _ (rest_1_c_eq ▸ (show rest_1_c.before _ s = true from hrest))
  have hfit : Fit s := fun {y c} hc i hi => by
    obtain ⟨ha, rfl⟩ := Array.getElem?_eq_some_iff.mp hc
    have q := List.all_eq_true.mp ((Array.all_eq_true_iff_forall_mem.mp hF) _ (Array.getElem_mem ha)) i (List.mem_range.mpr hi)
    simpa [Array.getElem?_eq_getElem hi] using q
  obtain ⟨hn1, hn2⟩ := and_e hn
  obtain ⟨hn3, hn4⟩ := and_e hn2
  obtain ⟨tn, evN⟩ := arr_v hn1
  obtain ⟨cl, AN⟩ := Arr.start evN hn1
  have SN : Sta s s.heap "com/example/riskloom/riskloom/gateway/http/BodyBuffer" "NONE" "[B" (.ref tn) := Sta.start evN (Or.inr ⟨hw _ (List.mem_of_getElem? (i := 2) rfl), hw _ (List.mem_of_getElem? (i := 42) rfl)⟩)
  have evL := Cond.eq_int (Cond.before_iff.mpr hn4) (Term.int_eval (0))
  have sz := own_len0 AN evN evL
  have VN : Arv s s.heap tn cl.cls .byte (0 : Int32) [] (.int (0 : Int32)) := Arv.start hfit AN (by rw [sz]; decide) (by rw [sz]; decide) (by decide) rfl trivial
  have hdc := Cond.before_iff.mp (hsets _ (List.mem_of_getElem? (i := 6) rfl))
  obtain ⟨dv, evD⟩ := arr_v hdc
  have SD : Sta s s.heap "java/util/ArrayList" "DEFAULTCAPACITY_EMPTY_ELEMENTDATA" "[Ljava/lang/Object;" (.ref dv) := Sta.start evD (Or.inr ⟨hw _ (List.mem_of_getElem? (i := 17) rfl), hsets _ (List.mem_of_getElem? (i := 2) rfl)⟩)
  obtain ⟨la, cK, LM⟩ := own_lam (hw _ (List.mem_of_getElem? (i := 6) rfl))
  obtain ⟨n, o, h1, h2, h3, _, L, rfl, ⟨rfl, N⟩, hq⟩ := rm_law l s _ hw tables_1 v0 v1 v2 dv tn la cK cl.cls s.heap s.heap.size (Nat.le_refl _) (Old.start s) VN SD SN LM p e ha hc hk s m _ below hf ((Spec.applies_iff_loose hf).mp happ).1 ⟨rfl, own_wrefl s, rfl⟩ trivial
  refine ⟨n, _, h1, h2, h3, hpost _ _ _ _ _ _ ⟨Cond.after_iff.mpr rfl, Cond.after_iff.mpr (eq_i res_at (Term.int_eval (1)) rfl), trivial⟩ ⟨hq.1, hq.2.1, (hq.2.2.sift fun y hy => Or.inr (N y hy)).mono (by decide) (by decide)⟩⟩
theorem main_1_1 : Claimed_1_1 := comes_1 fun _ _ _ _ _ _ h hF => ⟨h.1, Jvm.LamKit.wideOf hF⟩
theorem main_1_2 : Claimed_1_2 := comes_1 fun _ _ _ _ _ _ h hF => ⟨h.2.1, Jvm.LamKit.wideOf hF⟩
end Jvm.Pilot.@@N@@
namespace Jvm.Pilot.@@N@@
open Jvm Jvm.ClassFile Sem Op Lib Jvm.Free Jvm.Stand Jvm.Pilot.@@N@@.Jvm.D
/-! MADE BY PROGRAM (witnessworld.py) out of the Statement's table words and the real class files: 22 classes; the members and pool entries that the words name. The judged class is class 1, her method 1. -/
namespace start1
open Jvm.ClassFile
def u (s : String) : CpInfo := .utf8 (stringToUtf16 s)
/-- a pool by its gaps: so many unusable entries, then the entry; so many at the end -/
def gap : Nat → List CpInfo → List CpInfo
  | 0, r => r
  | n + 1, r => .unusable :: gap n r
def poolList (es : List (Nat × CpInfo)) (last : Nat) : List CpInfo := es.foldr (fun e r => gap e.1 (e.2 :: r)) (gap last [])
def pool (es : List (Nat × CpInfo)) (last : Nat) : Array CpInfo := ⟨poolList es last⟩
def fileOf (pool : Array CpInfo) (this : Nat) (attrs : Array Attribute := #[]) (ms : Array MethodInfo := #[]) (fl : Nat := 33) (sup : Nat := 0) (ifs : Array Nat := #[]) (fds : Array FieldInfo := #[]) : ClassFile where
  minorVersion := 0
  majorVersion := 65
  constantPool := pool
  accessFlags := fl
  thisClass := this
  superClass := sup
  interfaces := ifs
  fields := fds
  methods := ms
  attributes := attrs
def plain (name : String) (sup : Option ClassId) : Class where
  name := name
  kind := .ordinary
  loader := none
  accessFlags := 33
  super := sup
  interfaces := #[]
  cf := none
  fields := #[]
  methods := #[]
  instanceTypes := #[]
  staticTypes := #[]
  resolved := #[]
  callSites := []
  init := .initialized
  statics := none
  mirror := none

def pool0 : Array CpInfo := pool [(5, u "<init>"), (0, u "()V"), (1, .class_ 10), (1, u "java/lang/Object")] 113

def k0c0 : Code := { maxStack := 0, maxLocals := 1, code := object_method_1_code, exceptionTable := #[], attributes := #[] }
def k0m0 : Method := { name := "<init>", desc := "()V", sig := { parameters := [], returnType := none }, accessFlags := 1, code := some k0c0 }
/-- java/lang/Object -/
def k0 : Class := { plain "java/lang/Object" none with
  accessFlags := 33
  interfaces := #[]
  cf := some (fileOf pool0 8 #[] #[{ accessFlags := 1, nameIndex := 5, descriptorIndex := 6, attributes := #[] }] 33 0 #[] #[])
  fields := #[]
  methods := #[k0m0]
  instanceTypes := #[]
  staticTypes := #[]
  resolved := Array.replicate 124 none
  statics := none }

def pool1 : Array CpInfo := pool [(2, .class_ 4), (1, u "java/lang/Object"), (0, u "<init>"), (0, u "()V"), (0, .class_ 8), (0, u "com/example/riskloom/riskloom/gateway/http/BodyBuffer"), (0, .methodref 7 10), (0, .nameAndType 5 11), (0, u "(I)V"), (0, .methodref 7 13), (0, .nameAndType 14 15), (0, u "room"), (0, u "()I"), (0, .methodref 7 17), (0, .nameAndType 18 19), (0, u "array"), (0, u "()[B"), (0, .methodref 7 21), (0, .nameAndType 22 23), (0, u "heldBytes"), (0, u "()J"), (0, .integer 2147483647), (0, .methodref 7 26), (0, .nameAndType 27 11), (0, u "advance"), (0, .methodref 7 29), (0, .nameAndType 30 15), (0, u "position"), (0, .methodref 7 32), (0, .nameAndType 33 15), (0, u "length"), (0, .class_ 35), (0, u "com/example/riskloom/riskloom/gateway/http/BodyBufferAdvancePinLaw"), (2, u "law"), (0, u "(III)Z")] 5

def k1m0 : Method := { name := "<init>", desc := "()V", sig := { parameters := [], returnType := none }, accessFlags := 1, code := none }
def k1c1 : Code := { maxStack := 4, maxLocals := 11, code := code, exceptionTable := #[], attributes := #[] }
def k1m1 : Method := { name := "law", desc := "(III)Z", sig := { parameters := [.int, .int, .int], returnType := some .boolean }, accessFlags := 9, code := some k1c1 }
/-- com/example/riskloom/riskloom/gateway/http/BodyBufferAdvancePinLaw -/
def k1 : Class := { plain "com/example/riskloom/riskloom/gateway/http/BodyBufferAdvancePinLaw" (some 0) with
  accessFlags := 49
  interfaces := #[]
  cf := some (fileOf pool1 34 #[] #[{ accessFlags := 1, nameIndex := 5, descriptorIndex := 6, attributes := #[] }, { accessFlags := 9, nameIndex := 38, descriptorIndex := 39, attributes := #[] }] 49 2 #[] #[])
  fields := #[]
  methods := #[k1m0, k1m1]
  instanceTypes := #[]
  staticTypes := #[]
  resolved := Array.replicate 45 none
  statics := none }

def pool2 : Array CpInfo := pool [(1, .invokeDynamic 0 2), (0, .nameAndType 3 4), (0, u "apply"), (0, u "()Ljava/util/function/IntFunction;"), (0, .methodref 6 7), (0, .class_ 8), (0, .nameAndType 9 10), (0, u "com/example/riskloom/riskloom/gateway/http/BodyBuffer"), (0, u "<init>"), (0, u "(ILjava/util/function/IntFunction;)V"), (0, .methodref 12 13), (0, .class_ 14), (0, .nameAndType 9 15), (0, u "java/lang/Object"), (0, u "()V"), (0, .class_ 17), (0, u "java/util/ArrayList"), (0, .methodref 16 13), (0, .fieldref 6 20), (0, .nameAndType 21 22), (0, u "full"), (0, u "Ljava/util/List;"), (0, .fieldref 6 24), (0, .nameAndType 25 26), (0, u "NONE"), (0, u "[B"), (0, .fieldref 6 28), (0, .nameAndType 29 26), (0, u "last"), (0, .fieldref 6 31), (0, .nameAndType 32 33), (0, u "limit"), (0, u "I"), (0, .fieldref 6 35), (0, .nameAndType 36 37), (0, u "heap"), (0, u "Ljava/util/function/IntFunction;"), (0, .fieldref 6 39), (0, .nameAndType 40 33), (0, u "lastLength"), (0, .methodref 6 42), (0, .nameAndType 43 44), (0, u "makeRoom"), (0, u "(I)V"), (1, .class_ 48), (1, u "java/lang/Math"), (0, u "min"), (7, .fieldref 6 58), (0, .nameAndType 59 33), (0, u "length"), (0, .fieldref 6 61), (0, .nameAndType 62 63), (0, u "heldBytes"), (0, u "J"), (1, .class_ 67), (1, u "java/util/List"), (1, u "()I"), (11, u "()Z"), (4, .class_ 26), (10, .interfaceMethodref 65 98), (0, .nameAndType 99 81), (0, u "isEmpty"), (0, .integer 262144), (0, .long 2), (1, .methodref 46 104), (0, .nameAndType 105 106), (0, u "max"), (0, u "(JJ)J"), (0, .long 262144), (1, .methodref 46 110), (0, .nameAndType 49 106), (0, .interfaceMethodref 112 113), (0, .class_ 114), (0, .nameAndType 3 115), (0, u "java/util/function/IntFunction"), (0, u "(I)Ljava/lang/Object;"), (0, .methodref 117 118), (0, .class_ 119), (0, .nameAndType 120 121), (0, u "java/lang/System"), (0, u "arraycopy"), (0, u "(Ljava/lang/Object;ILjava/lang/Object;II)V"), (0, u "SEGMENT_BYTES"), (1, u "FIRST_ROOM"), (10, u "room"), (0, u "advance"), (0, u "array"), (0, u "()[B"), (0, u "position"), (0, u "()J"), (3, u "lambda$new$0"), (0, u "(I)[B"), (4, .methodType 115), (0, .methodHandle 6 152), (0, .methodref 6 153), (0, .nameAndType 144 145), (0, .methodType 145), (0, .methodHandle 6 156), (0, .methodref 157 158), (0, .class_ 159), (0, .nameAndType 160 161), (0, u "java/lang/invoke/LambdaMetafactory"), (0, u "metafactory"), (0, u "(Ljava/lang/invoke/MethodHandles$Lookup;Ljava/lang/String;Ljava/lang/invoke/MethodType;Ljava/lang/invoke/MethodType;Ljava/lang/invoke/MethodHandle;Ljava/lang/invoke/MethodType;)Ljava/lang/invoke/CallSite;")] 6

def k2c0 : Code := { maxStack := 3, maxLocals := 2, code := prog_17_method_1_code, exceptionTable := #[], attributes := #[] }
def k2m0 : Method := { name := "<init>", desc := "(I)V", sig := { parameters := [.int], returnType := none }, accessFlags := 0, code := some k2c0 }
def k2c1 : Code := { maxStack := 3, maxLocals := 3, code := prog_17_method_2_code, exceptionTable := #[], attributes := #[] }
def k2m1 : Method := { name := "<init>", desc := "(ILjava/util/function/IntFunction;)V", sig := { parameters := [.int, (.object "java/util/function/IntFunction")], returnType := none }, accessFlags := 0, code := some k2c1 }
def k2c2 : Code := { maxStack := 2, maxLocals := 1, code := prog_17_method_4_code, exceptionTable := #[], attributes := #[] }
def k2m2 : Method := { name := "room", desc := "()I", sig := { parameters := [], returnType := some .int }, accessFlags := 0, code := some k2c2 }
def k2c3 : Code := { maxStack := 3, maxLocals := 2, code := prog_17_method_5_code, exceptionTable := #[], attributes := #[] }
def k2m3 : Method := { name := "advance", desc := "(I)V", sig := { parameters := [.int], returnType := none }, accessFlags := 0, code := some k2c3 }
def k2c4 : Code := { maxStack := 1, maxLocals := 1, code := prog_17_method_6_code, exceptionTable := #[], attributes := #[] }
def k2m4 : Method := { name := "array", desc := "()[B", sig := { parameters := [], returnType := some (.array .byte) }, accessFlags := 0, code := some k2c4 }
def k2c5 : Code := { maxStack := 1, maxLocals := 1, code := prog_17_method_7_code, exceptionTable := #[], attributes := #[] }
def k2m5 : Method := { name := "position", desc := "()I", sig := { parameters := [], returnType := some .int }, accessFlags := 0, code := some k2c5 }
def k2c6 : Code := { maxStack := 1, maxLocals := 1, code := prog_17_method_8_code, exceptionTable := #[], attributes := #[] }
def k2m6 : Method := { name := "length", desc := "()I", sig := { parameters := [], returnType := some .int }, accessFlags := 0, code := some k2c6 }
def k2c7 : Code := { maxStack := 2, maxLocals := 1, code := prog_17_method_9_code, exceptionTable := #[], attributes := #[] }
def k2m7 : Method := { name := "heldBytes", desc := "()J", sig := { parameters := [], returnType := some .long }, accessFlags := 0, code := some k2c7 }
def k2c8 : Code := { maxStack := 6, maxLocals := 7, code := prog_17_method_11_code, exceptionTable := #[], attributes := #[] }
def k2m8 : Method := { name := "makeRoom", desc := "(I)V", sig := { parameters := [.int], returnType := none }, accessFlags := 2, code := some k2c8 }
def k2c9 : Code := { maxStack := 1, maxLocals := 1, code := prog_17_method_12_code, exceptionTable := #[], attributes := #[] }
def k2m9 : Method := { name := "lambda$new$0", desc := "(I)[B", sig := { parameters := [.int], returnType := some (.array .byte) }, accessFlags := 4106, code := some k2c9 }
/-- com/example/riskloom/riskloom/gateway/http/BodyBuffer -/
def k2 : Class := { plain "com/example/riskloom/riskloom/gateway/http/BodyBuffer" (some 0) with
  accessFlags := 48
  interfaces := #[]
  cf := some (fileOf pool2 6 #[.bootstrapMethods #[⟨155, #[150, 151, 154]⟩]] #[{ accessFlags := 0, nameIndex := 9, descriptorIndex := 44, attributes := #[] }, { accessFlags := 0, nameIndex := 9, descriptorIndex := 10, attributes := #[] }, { accessFlags := 0, nameIndex := 135, descriptorIndex := 69, attributes := #[] }, { accessFlags := 0, nameIndex := 136, descriptorIndex := 44, attributes := #[] }, { accessFlags := 0, nameIndex := 137, descriptorIndex := 138, attributes := #[] }, { accessFlags := 0, nameIndex := 139, descriptorIndex := 69, attributes := #[] }, { accessFlags := 0, nameIndex := 59, descriptorIndex := 69, attributes := #[] }, { accessFlags := 0, nameIndex := 62, descriptorIndex := 140, attributes := #[] }, { accessFlags := 2, nameIndex := 43, descriptorIndex := 44, attributes := #[] }, { accessFlags := 4106, nameIndex := 144, descriptorIndex := 145, attributes := #[] }] 48 12 #[] #[{ accessFlags := 26, nameIndex := 122, descriptorIndex := 33, attributes := #[] }, { accessFlags := 26, nameIndex := 25, descriptorIndex := 26, attributes := #[] }, { accessFlags := 26, nameIndex := 124, descriptorIndex := 33, attributes := #[] }, { accessFlags := 18, nameIndex := 32, descriptorIndex := 33, attributes := #[] }, { accessFlags := 18, nameIndex := 36, descriptorIndex := 37, attributes := #[] }, { accessFlags := 18, nameIndex := 21, descriptorIndex := 22, attributes := #[] }, { accessFlags := 2, nameIndex := 29, descriptorIndex := 26, attributes := #[] }, { accessFlags := 2, nameIndex := 40, descriptorIndex := 33, attributes := #[] }, { accessFlags := 2, nameIndex := 59, descriptorIndex := 33, attributes := #[] }, { accessFlags := 2, nameIndex := 62, descriptorIndex := 63, attributes := #[] }])
  fields := #[{ name := "SEGMENT_BYTES", type := .int, accessFlags := 26, slot := 0, constantValue := 0 }, { name := "NONE", type := (.array .byte), accessFlags := 26, slot := 1, constantValue := 0 }, { name := "FIRST_ROOM", type := .int, accessFlags := 26, slot := 2, constantValue := 0 }, { name := "limit", type := .int, accessFlags := 18, slot := 0, constantValue := 0 }, { name := "heap", type := (.object "java/util/function/IntFunction"), accessFlags := 18, slot := 1, constantValue := 0 }, { name := "full", type := (.object "java/util/List"), accessFlags := 18, slot := 2, constantValue := 0 }, { name := "last", type := (.array .byte), accessFlags := 2, slot := 3, constantValue := 0 }, { name := "lastLength", type := .int, accessFlags := 2, slot := 4, constantValue := 0 }, { name := "length", type := .int, accessFlags := 2, slot := 5, constantValue := 0 }, { name := "heldBytes", type := .long, accessFlags := 2, slot := 6, constantValue := 0 }]
  methods := #[k2m0, k2m1, k2m2, k2m3, k2m4, k2m5, k2m6, k2m7, k2m8, k2m9]
  instanceTypes := #[.int, (.object "java/util/function/IntFunction"), (.object "java/util/List"), (.array .byte), .int, .int, .long]
  staticTypes := #[.int, (.array .byte), .int]
  resolved := Array.replicate 168 none
  callSites := [(0, 2, .constant 2)]
  statics := some 0 }

def pool3 : Array CpInfo := pool [(1, .class_ 2), (0, u "java/util/function/IntFunction"), (0, .class_ 4), (0, u "java/lang/Object"), (0, u "apply"), (0, u "(I)Ljava/lang/Object;")] 7

def k3m0 : Method := { name := "apply", desc := "(I)Ljava/lang/Object;", sig := { parameters := [.int], returnType := some (.object "java/lang/Object") }, accessFlags := 1025, code := none }
/-- java/util/function/IntFunction -/
def k3 : Class := { plain "java/util/function/IntFunction" (some 0) with
  accessFlags := 1537
  interfaces := #[]
  cf := some (fileOf pool3 1 #[] #[{ accessFlags := 1025, nameIndex := 5, descriptorIndex := 6, attributes := #[] }] 1537 3 #[] #[])
  fields := #[]
  methods := #[k3m0]
  instanceTypes := #[]
  staticTypes := #[]
  resolved := Array.replicate 14 none
  statics := none }

def pool4 : Array CpInfo := pool [(8, .class_ 10), (1, u "java/lang/Iterable"), (24, .class_ 36), (0, u "java/lang/Object")] 25

/-- java/lang/Iterable -/
def k4 : Class := { plain "java/lang/Iterable" (some 0) with
  accessFlags := 1537
  interfaces := #[]
  cf := some (fileOf pool4 8 #[] #[] 1537 35 #[] #[])
  fields := #[]
  methods := #[]
  instanceTypes := #[]
  staticTypes := #[]
  resolved := Array.replicate 62 none
  statics := none }

def pool5 : Array CpInfo := pool [(10, .class_ 12), (1, u "java/util/Collection"), (47, .class_ 61), (0, u "java/lang/Object"), (0, .class_ 63), (0, u "java/lang/Iterable")] 51

/-- java/util/Collection -/
def k5 : Class := { plain "java/util/Collection" (some 0) with
  accessFlags := 1537
  interfaces := #[4]
  cf := some (fileOf pool5 10 #[] #[] 1537 60 #[62] #[])
  fields := #[]
  methods := #[]
  instanceTypes := #[]
  staticTypes := #[]
  resolved := Array.replicate 115 none
  statics := none }

def pool6 : Array CpInfo := pool [(1, .methodref 2 3), (0, .class_ 4), (0, .nameAndType 5 6), (0, u "java/lang/Object"), (0, u "<init>"), (0, u "()V"), (1, .class_ 10), (1, u "java/util/AbstractCollection"), (66, .class_ 78), (0, u "java/util/Collection")] 81

def k6c0 : Code := { maxStack := 1, maxLocals := 1, code := jdk_22_method_1_code, exceptionTable := #[], attributes := #[] }
def k6m0 : Method := { name := "<init>", desc := "()V", sig := { parameters := [], returnType := none }, accessFlags := 4, code := some k6c0 }
/-- java/util/AbstractCollection -/
def k6 : Class := { plain "java/util/AbstractCollection" (some 0) with
  accessFlags := 1057
  interfaces := #[5]
  cf := some (fileOf pool6 8 #[] #[{ accessFlags := 4, nameIndex := 5, descriptorIndex := 6, attributes := #[] }] 1057 2 #[77] #[])
  fields := #[]
  methods := #[k6m0]
  instanceTypes := #[]
  staticTypes := #[]
  resolved := Array.replicate 160 none
  statics := none }

def pool7 : Array CpInfo := pool [(8, .class_ 10), (1, u "java/util/SequencedCollection"), (15, .class_ 27), (0, u "java/lang/Object"), (0, .class_ 29), (0, u "java/util/Collection")] 27

/-- java/util/SequencedCollection -/
def k7 : Class := { plain "java/util/SequencedCollection" (some 0) with
  accessFlags := 1537
  interfaces := #[5]
  cf := some (fileOf pool7 8 #[] #[] 1537 26 #[28] #[])
  fields := #[]
  methods := #[]
  instanceTypes := #[]
  staticTypes := #[]
  resolved := Array.replicate 57 none
  statics := none }

def pool8 : Array CpInfo := pool [(8, .class_ 10), (1, u "java/util/List"), (7, u "()Z"), (48, u "isEmpty"), (35, .class_ 104), (0, u "java/lang/Object"), (15, .class_ 121), (0, u "java/util/SequencedCollection")] 129

def k8m0 : Method := { name := "isEmpty", desc := "()Z", sig := { parameters := [], returnType := some .boolean }, accessFlags := 1025, code := none }
/-- java/util/List -/
def k8 : Class := { plain "java/util/List" (some 0) with
  accessFlags := 1537
  interfaces := #[7]
  cf := some (fileOf pool8 8 #[] #[{ accessFlags := 1025, nameIndex := 67, descriptorIndex := 18, attributes := #[] }] 1537 103 #[120] #[])
  fields := #[]
  methods := #[k8m0]
  instanceTypes := #[]
  staticTypes := #[]
  resolved := Array.replicate 251 none
  statics := none }

def pool9 : Array CpInfo := pool [(1, .methodref 2 3), (0, .class_ 4), (0, .nameAndType 5 6), (0, u "java/util/AbstractCollection"), (0, u "<init>"), (0, u "()V"), (0, .fieldref 8 9), (0, .class_ 10), (0, .nameAndType 11 12), (0, u "java/util/AbstractList"), (0, u "modCount"), (0, u "I"), (64, .class_ 78), (0, u "java/util/AbstractList$Itr"), (3, .class_ 83), (0, u "java/util/AbstractList$ListItr"), (9, .class_ 94), (0, u "java/util/AbstractList$RandomAccessSubList"), (3, .class_ 99), (0, u "java/util/AbstractList$SubList"), (33, .class_ 134), (0, u "java/util/List"), (73, .class_ 209), (0, u "java/util/AbstractList$SubList$1"), (0, .class_ 211), (0, u "java/util/AbstractList$RandomAccessSpliterator")] 6

def k9c0 : Code := { maxStack := 2, maxLocals := 1, code := jdk_39_method_1_code, exceptionTable := #[], attributes := #[] }
def k9m0 : Method := { name := "<init>", desc := "()V", sig := { parameters := [], returnType := none }, accessFlags := 4, code := some k9c0 }
/-- java/util/AbstractList -/
def k9 : Class := { plain "java/util/AbstractList" (some 6) with
  accessFlags := 1057
  interfaces := #[8]
  cf := some (fileOf pool9 8 #[.nestMembers #[93, 98, 208, 210, 82, 77]] #[{ accessFlags := 4, nameIndex := 5, descriptorIndex := 6, attributes := #[] }] 1057 2 #[133] #[{ accessFlags := 132, nameIndex := 11, descriptorIndex := 12, attributes := #[] }])
  fields := #[{ name := "modCount", type := .int, accessFlags := 132, slot := 0, constantValue := 0 }]
  methods := #[k9m0]
  instanceTypes := #[.int]
  staticTypes := #[]
  resolved := Array.replicate 218 none
  statics := none }

def pool10 : Array CpInfo := pool [(1, .class_ 2), (0, u "java/util/RandomAccess"), (0, .class_ 4), (0, u "java/lang/Object")] 2

/-- java/util/RandomAccess -/
def k10 : Class := { plain "java/util/RandomAccess" (some 0) with
  accessFlags := 1537
  interfaces := #[]
  cf := some (fileOf pool10 1 #[] #[] 1537 3 #[] #[])
  fields := #[]
  methods := #[]
  instanceTypes := #[]
  staticTypes := #[]
  resolved := Array.replicate 7 none
  statics := none }

def pool11 : Array CpInfo := pool [(1, .class_ 2), (0, u "java/lang/Cloneable"), (0, .class_ 4), (0, u "java/lang/Object")] 2

/-- java/lang/Cloneable -/
def k11 : Class := { plain "java/lang/Cloneable" (some 0) with
  accessFlags := 1537
  interfaces := #[]
  cf := some (fileOf pool11 1 #[] #[] 1537 3 #[] #[])
  fields := #[]
  methods := #[]
  instanceTypes := #[]
  staticTypes := #[]
  resolved := Array.replicate 7 none
  statics := none }

def pool12 : Array CpInfo := pool [(1, .class_ 2), (0, u "java/io/Serializable"), (0, .class_ 4), (0, u "java/lang/Object")] 2

/-- java/io/Serializable -/
def k12 : Class := { plain "java/io/Serializable" (some 0) with
  accessFlags := 1537
  interfaces := #[]
  cf := some (fileOf pool12 1 #[] #[] 1537 3 #[] #[])
  fields := #[]
  methods := #[]
  instanceTypes := #[]
  staticTypes := #[]
  resolved := Array.replicate 7 none
  statics := none }

def pool13 : Array CpInfo := pool [(1, .methodref 2 3), (0, .class_ 4), (0, .nameAndType 5 6), (0, u "java/util/AbstractList"), (0, u "<init>"), (0, u "()V"), (2, .fieldref 10 11), (0, .class_ 12), (0, .nameAndType 13 14), (0, u "java/util/ArrayList"), (0, u "elementData"), (0, u "[Ljava/lang/Object;"), (2, u "EMPTY_ELEMENTDATA"), (21, .fieldref 10 40), (0, .nameAndType 41 14), (0, u "DEFAULTCAPACITY_EMPTY_ELEMENTDATA"), (6, .fieldref 10 49), (0, .nameAndType 50 51), (0, u "size"), (0, u "I"), (96, .class_ 149), (0, u "java/util/List"), (23, u "()Z"), (88, .class_ 263), (0, u "java/util/ArrayList$ListItr"), (3, .class_ 268), (0, u "java/util/ArrayList$Itr"), (7, .class_ 277), (0, u "java/util/ArrayList$SubList"), (12, .class_ 291), (0, u "java/util/ArrayList$ArrayListSpliterator"), (37, .class_ 330), (0, u "java/util/RandomAccess"), (0, .class_ 332), (0, u "java/lang/Cloneable"), (0, .class_ 334), (0, u "java/io/Serializable"), (0, u "serialVersionUID"), (0, u "J"), (3, u "DEFAULT_CAPACITY"), (22, u "isEmpty"), (136, .class_ 501), (0, u "java/util/ArrayList$SubList$2"), (0, .class_ 503), (0, u "java/util/ArrayList$SubList$1")] 5

def k13c0 : Code := { maxStack := 2, maxLocals := 1, code := jdk_38_method_2_code, exceptionTable := #[], attributes := #[] }
def k13m0 : Method := { name := "<init>", desc := "()V", sig := { parameters := [], returnType := none }, accessFlags := 1, code := some k13c0 }
def k13c1 : Code := { maxStack := 1, maxLocals := 1, code := jdk_38_method_9_code, exceptionTable := #[], attributes := #[] }
def k13m1 : Method := { name := "isEmpty", desc := "()Z", sig := { parameters := [], returnType := some .boolean }, accessFlags := 1, code := some k13c1 }
/-- java/util/ArrayList -/
def k13 : Class := { plain "java/util/ArrayList" (some 9) with
  accessFlags := 33
  interfaces := #[8, 10, 11, 12]
  cf := some (fileOf pool13 10 #[.nestMembers #[290, 276, 500, 502, 262, 267]] #[{ accessFlags := 1, nameIndex := 5, descriptorIndex := 6, attributes := #[] }, { accessFlags := 1, nameIndex := 363, descriptorIndex := 173, attributes := #[] }] 33 2 #[148, 329, 331, 333] #[{ accessFlags := 26, nameIndex := 335, descriptorIndex := 336, attributes := #[] }, { accessFlags := 26, nameIndex := 340, descriptorIndex := 51, attributes := #[] }, { accessFlags := 26, nameIndex := 17, descriptorIndex := 14, attributes := #[] }, { accessFlags := 26, nameIndex := 41, descriptorIndex := 14, attributes := #[] }, { accessFlags := 128, nameIndex := 13, descriptorIndex := 14, attributes := #[] }, { accessFlags := 2, nameIndex := 50, descriptorIndex := 51, attributes := #[] }])
  fields := #[{ name := "serialVersionUID", type := .long, accessFlags := 26, slot := 0, constantValue := 0 }, { name := "DEFAULT_CAPACITY", type := .int, accessFlags := 26, slot := 1, constantValue := 0 }, { name := "EMPTY_ELEMENTDATA", type := (.array (.object "java/lang/Object")), accessFlags := 26, slot := 2, constantValue := 0 }, { name := "DEFAULTCAPACITY_EMPTY_ELEMENTDATA", type := (.array (.object "java/lang/Object")), accessFlags := 26, slot := 3, constantValue := 0 }, { name := "elementData", type := (.array (.object "java/lang/Object")), accessFlags := 128, slot := 1, constantValue := 0 }, { name := "size", type := .int, accessFlags := 2, slot := 2, constantValue := 0 }]
  methods := #[k13m0, k13m1]
  instanceTypes := #[.int, (.array (.object "java/lang/Object")), .int]
  staticTypes := #[.long, .int, (.array (.object "java/lang/Object")), (.array (.object "java/lang/Object"))]
  resolved := Array.replicate 509 none
  statics := some 1 }

def pool14 : Array CpInfo := pool [(1, .class_ 2), (0, u "java/lang/Math"), (1, .class_ 6), (1, u "java/lang/Object"), (0, u "<init>"), (0, u "()V"), (89, .class_ 100), (1, u "java/lang/Math$RandomNumberGeneratorHolder"), (20, u "(JJ)J"), (50, u "negativeZeroFloatBits"), (0, u "J"), (2, u "negativeZeroDoubleBits"), (21, u "max"), (2, u "min"), (43, u "$assertionsDisabled"), (0, u "Z"), (91, u "twoToTheDoubleScaleDown"), (0, u "D"), (4, u "twoToTheDoubleScaleUp"), (9, u "E"), (3, u "PI"), (2, u "TAU"), (2, u "DEGREES_TO_RADIANS"), (0, u "RADIANS_TO_DEGREES")] 94

def k14m0 : Method := { name := "<init>", desc := "()V", sig := { parameters := [], returnType := none }, accessFlags := 2, code := none }
def k14c1 : Code := { maxStack := 4, maxLocals := 4, code := jdk_29_method_66_code, exceptionTable := #[], attributes := #[] }
def k14m1 : Method := { name := "max", desc := "(JJ)J", sig := { parameters := [.long, .long], returnType := some .long }, accessFlags := 9, code := some k14c1 }
def k14c2 : Code := { maxStack := 4, maxLocals := 4, code := jdk_29_method_70_code, exceptionTable := #[], attributes := #[] }
def k14m2 : Method := { name := "min", desc := "(JJ)J", sig := { parameters := [.long, .long], returnType := some .long }, accessFlags := 9, code := some k14c2 }
/-- java/lang/Math -/
def k14 : Class := { plain "java/lang/Math" (some 0) with
  accessFlags := 49
  interfaces := #[]
  cf := some (fileOf pool14 1 #[.nestMembers #[98]] #[{ accessFlags := 2, nameIndex := 7, descriptorIndex := 8, attributes := #[] }, { accessFlags := 9, nameIndex := 198, descriptorIndex := 121, attributes := #[] }, { accessFlags := 9, nameIndex := 201, descriptorIndex := 121, attributes := #[] }] 49 4 #[] #[{ accessFlags := 25, nameIndex := 354, descriptorIndex := 339, attributes := #[] }, { accessFlags := 25, nameIndex := 358, descriptorIndex := 339, attributes := #[] }, { accessFlags := 25, nameIndex := 361, descriptorIndex := 339, attributes := #[] }, { accessFlags := 26, nameIndex := 364, descriptorIndex := 339, attributes := #[] }, { accessFlags := 26, nameIndex := 365, descriptorIndex := 339, attributes := #[] }, { accessFlags := 26, nameIndex := 172, descriptorIndex := 173, attributes := #[] }, { accessFlags := 26, nameIndex := 176, descriptorIndex := 173, attributes := #[] }, { accessFlags := 8, nameIndex := 344, descriptorIndex := 339, attributes := #[] }, { accessFlags := 8, nameIndex := 338, descriptorIndex := 339, attributes := #[] }, { accessFlags := 4120, nameIndex := 245, descriptorIndex := 246, attributes := #[] }])
  fields := #[{ name := "E", type := .double, accessFlags := 25, slot := 0, constantValue := 0 }, { name := "PI", type := .double, accessFlags := 25, slot := 1, constantValue := 0 }, { name := "TAU", type := .double, accessFlags := 25, slot := 2, constantValue := 0 }, { name := "DEGREES_TO_RADIANS", type := .double, accessFlags := 26, slot := 3, constantValue := 0 }, { name := "RADIANS_TO_DEGREES", type := .double, accessFlags := 26, slot := 4, constantValue := 0 }, { name := "negativeZeroFloatBits", type := .long, accessFlags := 26, slot := 5, constantValue := 0 }, { name := "negativeZeroDoubleBits", type := .long, accessFlags := 26, slot := 6, constantValue := 0 }, { name := "twoToTheDoubleScaleUp", type := .double, accessFlags := 8, slot := 7, constantValue := 0 }, { name := "twoToTheDoubleScaleDown", type := .double, accessFlags := 8, slot := 8, constantValue := 0 }, { name := "$assertionsDisabled", type := .boolean, accessFlags := 4120, slot := 9, constantValue := 0 }]
  methods := #[k14m0, k14m1, k14m2]
  instanceTypes := #[]
  staticTypes := #[.double, .double, .double, .double, .double, .long, .long, .double, .double, .boolean]
  resolved := Array.replicate 460 none
  statics := none }

def pool15 : Array CpInfo := pool [(2, .class_ 4), (1, u "java/lang/Object"), (0, u "<init>"), (0, u "()V"), (1, .class_ 10), (1, u "java/lang/System"), (0, u "allowSecurityManager"), (0, u "I"), (16, u "cons"), (0, u "Ljava/io/Console;"), (77, .class_ 110), (1, u "java/lang/System$CallersHolder"), (43, u "initialErrStream"), (0, u "Ljava/io/PrintStream;"), (19, u "security"), (0, u "Ljava/lang/SecurityManager;"), (31, .class_ 209), (0, u "java/lang/System$1"), (7, u "props"), (0, u "Ljava/util/Properties;"), (2, u "lineSeparator"), (0, u "Ljava/lang/String;"), (96, .class_ 321), (1, u "java/lang/System$LoggerFinder"), (5, .class_ 328), (0, u "java/lang/System$Logger"), (67, u "err"), (2, u "out"), (91, u "notSupportedJnuEncoding"), (15, u "in"), (17, u "initialIn"), (0, u "Ljava/io/InputStream;"), (35, u "bootLayer"), (0, u "Ljava/lang/ModuleLayer;"), (99, .class_ 664), (0, u "java/lang/System$2"), (9, u "NEVER"), (2, u "MAYBE"), (49, u "arraycopy"), (0, u "(Ljava/lang/Object;ILjava/lang/Object;II)V"), (72, .class_ 802), (0, u "java/lang/System$Logger$Level")] 31

def k15m0 : Method := { name := "<init>", desc := "()V", sig := { parameters := [], returnType := none }, accessFlags := 2, code := none }
def k15m1 : Method := { name := "arraycopy", desc := "(Ljava/lang/Object;ILjava/lang/Object;II)V", sig := { parameters := [(.object "java/lang/Object"), .int, (.object "java/lang/Object"), .int, .int], returnType := none }, accessFlags := 265, code := none }
/-- java/lang/System -/
def k15 : Class := { plain "java/lang/System" (some 0) with
  accessFlags := 49
  interfaces := #[]
  cf := some (fileOf pool15 8 #[.nestMembers #[319, 327, 801, 108, 663, 208]] #[{ accessFlags := 2, nameIndex := 5, descriptorIndex := 6, attributes := #[] }, { accessFlags := 265, nameIndex := 727, descriptorIndex := 728, attributes := #[] }] 49 2 #[] #[{ accessFlags := 25, nameIndex := 507, descriptorIndex := 526, attributes := #[] }, { accessFlags := 25, nameIndex := 399, descriptorIndex := 155, attributes := #[] }, { accessFlags := 25, nameIndex := 396, descriptorIndex := 155, attributes := #[] }, { accessFlags := 10, nameIndex := 525, descriptorIndex := 526, attributes := #[] }, { accessFlags := 26, nameIndex := 674, descriptorIndex := 12, attributes := #[] }, { accessFlags := 26, nameIndex := 677, descriptorIndex := 12, attributes := #[] }, { accessFlags := 10, nameIndex := 11, descriptorIndex := 12, attributes := #[] }, { accessFlags := 74, nameIndex := 175, descriptorIndex := 176, attributes := #[] }, { accessFlags := 10, nameIndex := 491, descriptorIndex := 222, attributes := #[] }, { accessFlags := 74, nameIndex := 29, descriptorIndex := 30, attributes := #[] }, { accessFlags := 74, nameIndex := 154, descriptorIndex := 155, attributes := #[] }, { accessFlags := 10, nameIndex := 217, descriptorIndex := 218, attributes := #[] }, { accessFlags := 10, nameIndex := 221, descriptorIndex := 222, attributes := #[] }, { accessFlags := 8, nameIndex := 562, descriptorIndex := 563, attributes := #[] }])
  fields := #[{ name := "in", type := (.object "java/io/InputStream"), accessFlags := 25, slot := 0, constantValue := 0 }, { name := "out", type := (.object "java/io/PrintStream"), accessFlags := 25, slot := 1, constantValue := 0 }, { name := "err", type := (.object "java/io/PrintStream"), accessFlags := 25, slot := 2, constantValue := 0 }, { name := "initialIn", type := (.object "java/io/InputStream"), accessFlags := 10, slot := 3, constantValue := 0 }, { name := "NEVER", type := .int, accessFlags := 26, slot := 4, constantValue := 0 }, { name := "MAYBE", type := .int, accessFlags := 26, slot := 5, constantValue := 0 }, { name := "allowSecurityManager", type := .int, accessFlags := 10, slot := 6, constantValue := 0 }, { name := "security", type := (.object "java/lang/SecurityManager"), accessFlags := 74, slot := 7, constantValue := 0 }, { name := "notSupportedJnuEncoding", type := (.object "java/lang/String"), accessFlags := 10, slot := 8, constantValue := 0 }, { name := "cons", type := (.object "java/io/Console"), accessFlags := 74, slot := 9, constantValue := 0 }, { name := "initialErrStream", type := (.object "java/io/PrintStream"), accessFlags := 74, slot := 10, constantValue := 0 }, { name := "props", type := (.object "java/util/Properties"), accessFlags := 10, slot := 11, constantValue := 0 }, { name := "lineSeparator", type := (.object "java/lang/String"), accessFlags := 10, slot := 12, constantValue := 0 }, { name := "bootLayer", type := (.object "java/lang/ModuleLayer"), accessFlags := 8, slot := 13, constantValue := 0 }]
  methods := #[k15m0, k15m1]
  instanceTypes := #[]
  staticTypes := #[(.object "java/io/InputStream"), (.object "java/io/PrintStream"), (.object "java/io/PrintStream"), (.object "java/io/InputStream"), .int, .int, .int, (.object "java/lang/SecurityManager"), (.object "java/lang/String"), (.object "java/io/Console"), (.object "java/io/PrintStream"), (.object "java/util/Properties"), (.object "java/lang/String"), (.object "java/lang/ModuleLayer")]
  resolved := Array.replicate 834 none
  statics := none }

/-- the primitive byte -/
def k16 : Class := { plain "byte" none with kind := .primitive 'B', accessFlags := 0x411 }
/-- [B -/
def k17 : Class := { plain "[B" (some 0) with kind := .array 16 .byte, interfaces := #[11, 12], accessFlags := 1041 }

/-- the primitive int -/
def k18 : Class := { plain "int" none with kind := .primitive 'I', accessFlags := 0x411 }
/-- [I -/
def k19 : Class := { plain "[I" (some 0) with kind := .array 18 .int, interfaces := #[11, 12], accessFlags := 1041 }

/-- [Ljava/lang/Object; -/
def k20 : Class := { plain "[Ljava/lang/Object;" (some 0) with kind := .array 0 (.object "java/lang/Object"), interfaces := #[11, 12], accessFlags := 1041 }

def classes0 : Array Class := #[k0, k1, k2, k3, k4, k5, k6, k7, k8, k9, k10, k11, k12, k13, k14, k15, k16, k17, k18, k19, k20]
/-- the class that the rule has made for the site at 2 of com/example/riskloom/riskloom/gateway/http/BodyBuffer.<init> -/
def k21 : Class := Jvm.LamKit.madeRec { classes := classes0 } "com/example/riskloom/riskloom/gateway/http/BodyBuffer" (Jvm.Lambda.Shape.mk "java/util/function/IntFunction" "apply" (Jvm.ClassFile.MethodDescriptor.mk ([Jvm.ClassFile.FieldType.int] : List Jvm.ClassFile.FieldType) (Option.some (Jvm.ClassFile.FieldType.object "java/lang/Object"))) ([] : List Jvm.ClassFile.FieldType) (6 : Nat) "com/example/riskloom/riskloom/gateway/http/BodyBuffer" "lambda$new$0" (Jvm.ClassFile.MethodDescriptor.mk ([Jvm.ClassFile.FieldType.int] : List Jvm.ClassFile.FieldType) (Option.some (Jvm.ClassFile.FieldType.array Jvm.ClassFile.FieldType.byte))) false (Jvm.ClassFile.MethodDescriptor.mk ([Jvm.ClassFile.FieldType.int] : List Jvm.ClassFile.FieldType) (Option.some (Jvm.ClassFile.FieldType.array Jvm.ClassFile.FieldType.byte)))) 21

def heap : Heap := #[{ cls := 2, slots := #[.int 0, .ref 3, .int 0], vm := .statics 2 },
  { cls := 13, slots := #[.long 0, .int 0, .ref 4, .ref 5], vm := .statics 13 },
  { cls := 21, slots := #[], vm := .none },
  { cls := 17, slots := #[], vm := .none },
  { cls := 20, slots := #[], vm := .none },
  { cls := 20, slots := #[], vm := .none }]
def classes : Array Class := #[k0, k1, k2, k3, k4, k5, k6, k7, k8, k9, k10, k11, k12, k13, k14, k15, k16, k17, k18, k19, k20, k21]
def interned : List (Array UInt16 × Addr) := []
def slotsUsed : Nat := 7
def theMethod : MethodId := ⟨1, 1⟩
def args0 : Array Value := #[.int 5, .int 3, .int 4]
def aboutOver (below : List Frame) : State where
  vm := { classes := classes, interned := interned.toArray }
  heap := heap
  slotsUsed := slotsUsed
  threads := #[{ frames := .invoking theMethod args0 :: below }]
def below0 : List Frame := [.native { method := ⟨0, 0⟩, args := #[] }]
def about1 : State := aboutOver below0
def p0 : Program := .bare "" "" ""
def e0 : Env := launch0.env 0 0 0
theorem w_frames : about1.frames = Frame.invoking theMethod args0 :: below0 := rfl
set_option maxRecDepth 65536 in
theorem w_args : argsFit about1.vm theMethod args0 = true := by decide +kernel
set_option maxRecDepth 65536 in
theorem w_heap : heapFits about1 = true := by decide +kernel
set_option maxRecDepth 65536 in
theorem w_runnable : about1.curStatus? = some .runnable := by decide +kernel
set_option maxRecDepth 65536 in
theorem w_alone : about1.alone = true := by decide +kernel
set_option maxRecDepth 65536 in
theorem w_named : about1.methodNamed? x = some theMethod := by decide +kernel
set_option maxRecDepth 65536 in
theorem w_hears : about1.hears theMethod below0 = true := by decide +kernel
set_option maxRecDepth 65536 in
theorem w_ripe : about1.ripe theMethod args0 below0 = true := by decide +kernel
theorem w_running : about1.status = .running := rfl
set_option maxRecDepth 65536 in
theorem w_room : about1.hasRoom e0.platform room_1 = true :=
  launch0.hasRoom_least _ room_1 (by decide +kernel) (by decide +kernel) (by decide +kernel) (by decide +kernel) (by decide +kernel) (by decide +kernel)
theorem allAtoms_all (ts : List Jvm.Cond) (a : Array Jvm.Value) (st : Jvm.State) : (allAtoms ts).before a st = ts.all (fun c => c.before a st) := by
  induction ts with
  | nil => rfl
  | cons c t ih =>
    show (Jvm.Cond.and c (allAtoms t)).before a st = _
    rw [Jvm.Cond.before_and, ih, List.all_cons]
def words1 : List Jvm.Cond := Jvm.Cond.code x code maxLocals ret :: tables_1
/-- a 'code' word, met by the world's own term for the bytes: nothing is compared byte by byte -/
theorem code_word {y : MethodName} {bytes : ByteArray} {mx : Nat} {rt : Option FieldType} {a : Array Value} {s : State} {m : MethodId} {meth : Method} {c : Code} (h1 : s.methodNamed? y = some m) (h2 : s.vm.method? m = some meth) (h3 : meth.code = some c) (h4 : c.code = bytes)
    (h5 : (c.maxLocals == mx && c.exceptionTable.isEmpty && decide (c.maxStack ≤ mostOperands) && decide (meth.sig.returnType = rt) && !meth.locks && decide (parseMethodDescriptor y.desc = some meth.sig)) = true) : (Jvm.Cond.code y bytes mx rt).before a s = true := by
  simp only [Bool.and_eq_true, beq_iff_eq, Bool.not_eq_true', decide_eq_true_eq] at h5
  obtain ⟨⟨⟨⟨⟨g1, g2⟩, g3⟩, g4⟩, g5⟩, g6⟩ := h5
  simp [Cond.before, Cond.holds, Cond.value, h1, h2, h3, h4, g1, g2, g3, g4, g5, g6]
def isCode : Jvm.Cond → Bool
  | .code _ _ _ _ => true
  | _ => false
theorem all_split {L : List Jvm.Cond} {P : Jvm.Cond → Bool} (h1 : L.all (fun c => isCode c || P c) = true) (h2 : ∀ c ∈ L.filter isCode, P c = true) : L.all P = true := by
  refine List.all_eq_true.mpr fun c hc => ?_
  have h := List.all_eq_true.mp h1 c hc
  rcases Bool.eq_false_or_eq_true (isCode c) with hi | hi
  · exact h2 c (List.mem_filter.mpr ⟨hc, hi⟩)
  · simpa [hi] using h
set_option maxRecDepth 65536 in
theorem w_c0 : (Jvm.Cond.code x code maxLocals ret).before args0 about1 = true := code_word (m := ⟨1, 1⟩) (meth := k1m1) (c := k1c1) (by decide +kernel) rfl rfl rfl (by decide +kernel)
set_option maxRecDepth 65536 in
theorem w_c1 : (Jvm.Cond.code ({ cls := "com/example/riskloom/riskloom/gateway/http/BodyBuffer", name := "<init>", desc := "(I)V" } : Jvm.MethodName) prog_17_method_1_code (2 : Nat) (Option.none : Option Jvm.ClassFile.FieldType)).before args0 about1 = true := code_word (m := ⟨2, 0⟩) (meth := k2m0) (c := k2c0) (by decide +kernel) rfl rfl rfl (by decide +kernel)
set_option maxRecDepth 65536 in
theorem w_c2 : (Jvm.Cond.code ({ cls := "com/example/riskloom/riskloom/gateway/http/BodyBuffer", name := "<init>", desc := "(ILjava/util/function/IntFunction;)V" } : Jvm.MethodName) prog_17_method_2_code (3 : Nat) (Option.none : Option Jvm.ClassFile.FieldType)).before args0 about1 = true := code_word (m := ⟨2, 1⟩) (meth := k2m1) (c := k2c1) (by decide +kernel) rfl rfl rfl (by decide +kernel)
set_option maxRecDepth 65536 in
theorem w_c3 : (Jvm.Cond.code ({ cls := "java/lang/Object", name := "<init>", desc := "()V" } : Jvm.MethodName) object_method_1_code (1 : Nat) (Option.none : Option Jvm.ClassFile.FieldType)).before args0 about1 = true := code_word (m := ⟨0, 0⟩) (meth := k0m0) (c := k0c0) (by decide +kernel) rfl rfl rfl (by decide +kernel)
set_option maxRecDepth 65536 in
theorem w_c4 : (Jvm.Cond.code ({ cls := "java/util/ArrayList", name := "<init>", desc := "()V" } : Jvm.MethodName) jdk_38_method_2_code (1 : Nat) (Option.none : Option Jvm.ClassFile.FieldType)).before args0 about1 = true := code_word (m := ⟨13, 0⟩) (meth := k13m0) (c := k13c0) (by decide +kernel) rfl rfl rfl (by decide +kernel)
set_option maxRecDepth 65536 in
theorem w_c5 : (Jvm.Cond.code ({ cls := "java/util/AbstractList", name := "<init>", desc := "()V" } : Jvm.MethodName) jdk_39_method_1_code (1 : Nat) (Option.none : Option Jvm.ClassFile.FieldType)).before args0 about1 = true := code_word (m := ⟨9, 0⟩) (meth := k9m0) (c := k9c0) (by decide +kernel) rfl rfl rfl (by decide +kernel)
set_option maxRecDepth 65536 in
theorem w_c6 : (Jvm.Cond.code ({ cls := "java/util/AbstractCollection", name := "<init>", desc := "()V" } : Jvm.MethodName) jdk_22_method_1_code (1 : Nat) (Option.none : Option Jvm.ClassFile.FieldType)).before args0 about1 = true := code_word (m := ⟨6, 0⟩) (meth := k6m0) (c := k6c0) (by decide +kernel) rfl rfl rfl (by decide +kernel)
set_option maxRecDepth 65536 in
theorem w_c7 : (Jvm.Cond.code ({ cls := "com/example/riskloom/riskloom/gateway/http/BodyBuffer", name := "room", desc := "()I" } : Jvm.MethodName) prog_17_method_4_code (1 : Nat) (Option.some Jvm.ClassFile.FieldType.int)).before args0 about1 = true := code_word (m := ⟨2, 2⟩) (meth := k2m2) (c := k2c2) (by decide +kernel) rfl rfl rfl (by decide +kernel)
set_option maxRecDepth 65536 in
theorem w_c8 : (Jvm.Cond.code ({ cls := "com/example/riskloom/riskloom/gateway/http/BodyBuffer", name := "array", desc := "()[B" } : Jvm.MethodName) prog_17_method_6_code (1 : Nat) (Option.some (Jvm.ClassFile.FieldType.array Jvm.ClassFile.FieldType.byte))).before args0 about1 = true := code_word (m := ⟨2, 4⟩) (meth := k2m4) (c := k2c4) (by decide +kernel) rfl rfl rfl (by decide +kernel)
set_option maxRecDepth 65536 in
theorem w_c9 : (Jvm.Cond.code ({ cls := "com/example/riskloom/riskloom/gateway/http/BodyBuffer", name := "heldBytes", desc := "()J" } : Jvm.MethodName) prog_17_method_9_code (1 : Nat) (Option.some Jvm.ClassFile.FieldType.long)).before args0 about1 = true := code_word (m := ⟨2, 7⟩) (meth := k2m7) (c := k2c7) (by decide +kernel) rfl rfl rfl (by decide +kernel)
set_option maxRecDepth 65536 in
theorem w_c10 : (Jvm.Cond.code ({ cls := "com/example/riskloom/riskloom/gateway/http/BodyBuffer", name := "advance", desc := "(I)V" } : Jvm.MethodName) prog_17_method_5_code (2 : Nat) (Option.none : Option Jvm.ClassFile.FieldType)).before args0 about1 = true := code_word (m := ⟨2, 3⟩) (meth := k2m3) (c := k2c3) (by decide +kernel) rfl rfl rfl (by decide +kernel)
set_option maxRecDepth 65536 in
theorem w_c11 : (Jvm.Cond.code ({ cls := "com/example/riskloom/riskloom/gateway/http/BodyBuffer", name := "position", desc := "()I" } : Jvm.MethodName) prog_17_method_7_code (1 : Nat) (Option.some Jvm.ClassFile.FieldType.int)).before args0 about1 = true := code_word (m := ⟨2, 5⟩) (meth := k2m5) (c := k2c5) (by decide +kernel) rfl rfl rfl (by decide +kernel)
set_option maxRecDepth 65536 in
theorem w_c12 : (Jvm.Cond.code ({ cls := "com/example/riskloom/riskloom/gateway/http/BodyBuffer", name := "length", desc := "()I" } : Jvm.MethodName) prog_17_method_8_code (1 : Nat) (Option.some Jvm.ClassFile.FieldType.int)).before args0 about1 = true := code_word (m := ⟨2, 6⟩) (meth := k2m6) (c := k2c6) (by decide +kernel) rfl rfl rfl (by decide +kernel)
set_option maxRecDepth 65536 in
theorem w_c13 : (Jvm.Cond.code ({ cls := "com/example/riskloom/riskloom/gateway/http/BodyBuffer", name := "makeRoom", desc := "(I)V" } : Jvm.MethodName) prog_17_method_11_code (7 : Nat) (Option.none : Option Jvm.ClassFile.FieldType)).before args0 about1 = true := code_word (m := ⟨2, 8⟩) (meth := k2m8) (c := k2c8) (by decide +kernel) rfl rfl rfl (by decide +kernel)
set_option maxRecDepth 65536 in
theorem w_c14 : (Jvm.Cond.code ({ cls := "java/util/ArrayList", name := "isEmpty", desc := "()Z" } : Jvm.MethodName) jdk_38_method_9_code (1 : Nat) (Option.some Jvm.ClassFile.FieldType.boolean)).before args0 about1 = true := code_word (m := ⟨13, 1⟩) (meth := k13m1) (c := k13c1) (by decide +kernel) rfl rfl rfl (by decide +kernel)
set_option maxRecDepth 65536 in
theorem w_c15 : (Jvm.Cond.code ({ cls := "java/lang/Math", name := "max", desc := "(JJ)J" } : Jvm.MethodName) jdk_29_method_66_code (4 : Nat) (Option.some Jvm.ClassFile.FieldType.long)).before args0 about1 = true := code_word (m := ⟨14, 1⟩) (meth := k14m1) (c := k14c1) (by decide +kernel) rfl rfl rfl (by decide +kernel)
set_option maxRecDepth 65536 in
theorem w_c16 : (Jvm.Cond.code ({ cls := "java/lang/Math", name := "min", desc := "(JJ)J" } : Jvm.MethodName) jdk_29_method_70_code (4 : Nat) (Option.some Jvm.ClassFile.FieldType.long)).before args0 about1 = true := code_word (m := ⟨14, 2⟩) (meth := k14m2) (c := k14c2) (by decide +kernel) rfl rfl rfl (by decide +kernel)
set_option maxRecDepth 65536 in
theorem w_c17 : (Jvm.Cond.code ({ cls := "com/example/riskloom/riskloom/gateway/http/BodyBuffer", name := "lambda$new$0", desc := "(I)[B" } : Jvm.MethodName) prog_17_method_12_code (1 : Nat) (Option.some (Jvm.ClassFile.FieldType.array Jvm.ClassFile.FieldType.byte))).before args0 about1 = true := code_word (m := ⟨2, 9⟩) (meth := k2m9) (c := k2c9) (by decide +kernel) rfl rfl rfl (by decide +kernel)
def codes1 : List Jvm.Cond := [Jvm.Cond.code x code maxLocals ret, Jvm.Cond.code ({ cls := "com/example/riskloom/riskloom/gateway/http/BodyBuffer", name := "<init>", desc := "(I)V" } : Jvm.MethodName) prog_17_method_1_code (2 : Nat) (Option.none : Option Jvm.ClassFile.FieldType), Jvm.Cond.code ({ cls := "com/example/riskloom/riskloom/gateway/http/BodyBuffer", name := "<init>", desc := "(ILjava/util/function/IntFunction;)V" } : Jvm.MethodName) prog_17_method_2_code (3 : Nat) (Option.none : Option Jvm.ClassFile.FieldType), Jvm.Cond.code ({ cls := "java/lang/Object", name := "<init>", desc := "()V" } : Jvm.MethodName) object_method_1_code (1 : Nat) (Option.none : Option Jvm.ClassFile.FieldType), Jvm.Cond.code ({ cls := "java/util/ArrayList", name := "<init>", desc := "()V" } : Jvm.MethodName) jdk_38_method_2_code (1 : Nat) (Option.none : Option Jvm.ClassFile.FieldType), Jvm.Cond.code ({ cls := "java/util/AbstractList", name := "<init>", desc := "()V" } : Jvm.MethodName) jdk_39_method_1_code (1 : Nat) (Option.none : Option Jvm.ClassFile.FieldType), Jvm.Cond.code ({ cls := "java/util/AbstractCollection", name := "<init>", desc := "()V" } : Jvm.MethodName) jdk_22_method_1_code (1 : Nat) (Option.none : Option Jvm.ClassFile.FieldType), Jvm.Cond.code ({ cls := "com/example/riskloom/riskloom/gateway/http/BodyBuffer", name := "room", desc := "()I" } : Jvm.MethodName) prog_17_method_4_code (1 : Nat) (Option.some Jvm.ClassFile.FieldType.int), Jvm.Cond.code ({ cls := "com/example/riskloom/riskloom/gateway/http/BodyBuffer", name := "array", desc := "()[B" } : Jvm.MethodName) prog_17_method_6_code (1 : Nat) (Option.some (Jvm.ClassFile.FieldType.array Jvm.ClassFile.FieldType.byte)), Jvm.Cond.code ({ cls := "com/example/riskloom/riskloom/gateway/http/BodyBuffer", name := "heldBytes", desc := "()J" } : Jvm.MethodName) prog_17_method_9_code (1 : Nat) (Option.some Jvm.ClassFile.FieldType.long), Jvm.Cond.code ({ cls := "com/example/riskloom/riskloom/gateway/http/BodyBuffer", name := "advance", desc := "(I)V" } : Jvm.MethodName) prog_17_method_5_code (2 : Nat) (Option.none : Option Jvm.ClassFile.FieldType), Jvm.Cond.code ({ cls := "com/example/riskloom/riskloom/gateway/http/BodyBuffer", name := "position", desc := "()I" } : Jvm.MethodName) prog_17_method_7_code (1 : Nat) (Option.some Jvm.ClassFile.FieldType.int), Jvm.Cond.code ({ cls := "com/example/riskloom/riskloom/gateway/http/BodyBuffer", name := "length", desc := "()I" } : Jvm.MethodName) prog_17_method_8_code (1 : Nat) (Option.some Jvm.ClassFile.FieldType.int), Jvm.Cond.code ({ cls := "com/example/riskloom/riskloom/gateway/http/BodyBuffer", name := "makeRoom", desc := "(I)V" } : Jvm.MethodName) prog_17_method_11_code (7 : Nat) (Option.none : Option Jvm.ClassFile.FieldType), Jvm.Cond.code ({ cls := "java/util/ArrayList", name := "isEmpty", desc := "()Z" } : Jvm.MethodName) jdk_38_method_9_code (1 : Nat) (Option.some Jvm.ClassFile.FieldType.boolean), Jvm.Cond.code ({ cls := "java/lang/Math", name := "max", desc := "(JJ)J" } : Jvm.MethodName) jdk_29_method_66_code (4 : Nat) (Option.some Jvm.ClassFile.FieldType.long), Jvm.Cond.code ({ cls := "java/lang/Math", name := "min", desc := "(JJ)J" } : Jvm.MethodName) jdk_29_method_70_code (4 : Nat) (Option.some Jvm.ClassFile.FieldType.long), Jvm.Cond.code ({ cls := "com/example/riskloom/riskloom/gateway/http/BodyBuffer", name := "lambda$new$0", desc := "(I)[B" } : Jvm.MethodName) prog_17_method_12_code (1 : Nat) (Option.some (Jvm.ClassFile.FieldType.array Jvm.ClassFile.FieldType.byte))]
set_option maxRecDepth 65536 in
theorem codes_eq : words1.filter isCode = codes1 := rfl
theorem w_codes : ∀ c ∈ words1.filter isCode, c.before args0 about1 = true := by
  rw [codes_eq]
  intro c hc
  simp only [codes1, List.mem_cons, List.not_mem_nil, or_false] at hc
  rcases hc with rfl | rfl | rfl | rfl | rfl | rfl | rfl | rfl | rfl | rfl | rfl | rfl | rfl | rfl | rfl | rfl | rfl | rfl
  · exact w_c0
  · exact w_c1
  · exact w_c2
  · exact w_c3
  · exact w_c4
  · exact w_c5
  · exact w_c6
  · exact w_c7
  · exact w_c8
  · exact w_c9
  · exact w_c10
  · exact w_c11
  · exact w_c12
  · exact w_c13
  · exact w_c14
  · exact w_c15
  · exact w_c16
  · exact w_c17
set_option maxRecDepth 65536 in
theorem w_t1 : (words1.take 24).all (fun c => isCode c || c.before args0 about1) = true := by decide +kernel
set_option maxRecDepth 65536 in
theorem w_t2 : ((words1.drop 24).take 24).all (fun c => isCode c || c.before args0 about1) = true := by decide +kernel
set_option maxRecDepth 65536 in
theorem w_t3 : (((words1.drop 24).drop 24).take 24).all (fun c => isCode c || c.before args0 about1) = true := by decide +kernel
set_option maxRecDepth 65536 in
theorem w_t4 : ((((words1.drop 24).drop 24).drop 24).take 24).all (fun c => isCode c || c.before args0 about1) = true := by decide +kernel
set_option maxRecDepth 65536 in
theorem w_t5 : (((((words1.drop 24).drop 24).drop 24).drop 24).take 24).all (fun c => isCode c || c.before args0 about1) = true := by decide +kernel
set_option maxRecDepth 65536 in
theorem w_t6 : (((((words1.drop 24).drop 24).drop 24).drop 24).drop 24).all (fun c => isCode c || c.before args0 about1) = true := by decide +kernel
theorem w_tables : (allAtoms (Jvm.Cond.code x code maxLocals ret :: tables_1)).before args0 about1 = true := by
  rw [allAtoms_all]
  show words1.all (fun c => c.before args0 about1) = true
  refine all_split ?_ w_codes
  rw [← List.take_append_drop 24 words1, List.all_append, w_t1, ← List.take_append_drop 24 (words1.drop 24), List.all_append, w_t2, ← List.take_append_drop 24 ((words1.drop 24).drop 24), List.all_append, w_t3, ← List.take_append_drop 24 (((words1.drop 24).drop 24).drop 24), List.all_append, w_t4, ← List.take_append_drop 24 ((((words1.drop 24).drop 24).drop 24).drop 24), List.all_append, w_t5, w_t6]
  rfl
set_option maxRecDepth 65536 in
theorem w_rest : rest_1_c.before args0 about1 = true := by decide +kernel
set_option maxRecDepth 65536 in
theorem w_case : (Jvm.Cond.and given_1 narrow_1).before args0 about1 = true := by decide +kernel
theorem w_applies : (headSpec (Jvm.Cond.code x code maxLocals ret :: tables_1) room_1).applies x e0.platform about1 = true :=
  (Spec.applies_iff w_frames).mpr ⟨w_running, w_runnable, w_alone, w_named, w_hears, w_ripe, w_room, w_tables⟩
theorem atStart : AtStart classFile x code maxLocals ret World_1 tables_1 room_1 Calls_1 rest_1 Pre_1 launch0 p0 e0 about1 theMethod args0 below0 :=
  ⟨lists_1, trivial, launch0.admits_env _ _ _, launch0.least_env, fairChoices_fair.cas, fairChoices_fair.clock, w_frames, w_args, w_heap, w_applies, trivial, w_rest, w_case⟩
end start1
theorem witness_1 : WitnessClaimed_1 := ⟨start1.p0, start1.e0, start1.about1, start1.theMethod, start1.args0, start1.below0, start1.atStart⟩
end Jvm.Pilot.@@N@@
