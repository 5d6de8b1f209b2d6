import JvmDerived
import JvmDerived.Pilot.@@N@@Statement
import JvmDerived.Pilot.@@N@@Code
set_option linter.unusedVariables false
set_option linter.unusedSimpArgs false
@@BLOCK:NumsL.lean.txt@@
namespace Jvm.RoadKit
open Sem ClassFile Op Lib Jvm.Stand Jvm.Free Jvm.LawKit
section New
variable {p : Program} {l : Launch} {e : Env} {R : Room} {s : State} {m : MethodId} {args : Array Value} {below : List Frame} {meth : Method} {c : Code} {T : State} {locs : List Loc} {cells slots : Nat}
theorem retI (X : Stand p l e R s m args below meth c T locs cells slots) (hx : p.tables.exec = Jvm.exec) {pc : Nat} {Ls : Array Slot} {z : Int32} {rest : List Value} (hret : meth.sig.returnType = some .int) (hd : decode c.code pc = .ok (.ireturn, 1)) {fs : List Frame}
    (hl : ∀ (f : JFrame) (acts : List Action), f.method = m → f.locked = none → f.entered = [] → (doReturn e (T.setTop f) acts (some (.int z))).1 = T.setFrames fs) : Steps p.tables e below (T.setTop (mkF m pc Ls (.int z :: rest))) (T.setFrames fs) := by
  have hm' : T.vm.method? m = some meth := X.method'
  have hn : narrow .int (.int z) = .int z := rfl
  show Steps p.tables e below (T.setTop { method := m, pc := pc, locals := Ls, stack := _ :: rest, locked := none }) _
  jvm_step X.here [X.here.top, hx, hd, hm', hret, hn]
  first | (intro acts; rw [hl _ acts rfl rfl rfl]) | rw [hl _ _ rfl rfl rfl]
  exact Steps.refl _
end New
end Jvm.RoadKit
/- laws to paste: Road.backV, Road.lenW, Road.chN, Road.empW, Road.codOf (cut by pick.py; bodies as the Statement names them) -/
namespace Jvm.Pilot.@@N@@
namespace StrChars
open Jvm Sem ClassFile Op Lib Jvm.Stand Jvm.Free.XT Jvm.Free.ALB Jvm.Free.JM Jvm.Free
open Jvm.Lib.Cold (StaticIs)
/-- a char array whose places are chars -/
def Ch (a : Addr) (A : Cell) (U : State) : Prop := Arr .char a A U ∧ Typed .char A
theorem Ch.mv {a : Addr} {A : Cell} {U U' : State} (h : Ch a A U) (hal : U.vm.Alike U'.vm) (hh : U'.heap = U.heap) : Ch a A U' := ⟨h.1.mv hal hh, h.2⟩
theorem Ch.keep {a : Addr} {A : Cell} {U U' : State} (h : Ch a A U) (hal : U.vm.Alike U'.vm) (hk : U'.heap[a]? = some A) : Ch a A U' := ⟨h.1.keep hal hk, h.2⟩
/-- what place i of a char[]'s cell holds -/
def cv (A : Cell) (i : Nat) : Int32 := match A.slots[i]? with | some (.int x) => x | _ => 0
theorem Ch.get {a : Addr} {A : Cell} {U : State} (h : Ch a A U) {i : Nat} (hi : i < A.slots.size) : A.slots[i]? = some (.int (cv A i)) := by
  have e := Array.getElem?_eq_getElem hi
  have f := h.2 i _ e
  unfold cv; rw [e]
  generalize A.slots[i] = v at f
  cases v <;> simp [fits] at f ⊢
/-- the byte that i2b leaves of a char -/
def lo8 (x : Int32) : Int32 := x.toInt8.toInt32
theorem fits_lo8 (y : Int32) : fits .byte (.int (lo8 y)) = true := by
  have h1 := y.toInt8.le_toInt
  have h2 := y.toInt8.toInt_lt
  simp only [lo8, fits, Bool.and_eq_true, decide_eq_true_eq, Int32.le_iff_toInt_le, Int8.toInt_toInt32, show (-128 : Int32).toInt = -128 from by decide, show (127 : Int32).toInt = 127 from by decide]
  omega
/-- A' is A but that each place j of lo .. hi - 1 holds f j -/
def Laid (A A' : Cell) (lo hi : Nat) (f : Nat → Value) : Prop := A'.cls = A.cls ∧ A'.vm = A.vm ∧ A'.slots.size = A.slots.size ∧ ∀ i, A'.slots[i]? = if lo ≤ i ∧ i < hi then some (f i) else A.slots[i]?
theorem Laid.zero (A : Cell) (lo : Nat) (f : Nat → Value) : Laid A A lo (lo + 0) f := ⟨rfl, rfl, rfl, fun i => by rw [if_neg (by omega)]⟩
theorem Laid.step {A Ak : Cell} {lo k : Nat} {f : Nat → Value} {v : Value} (h : Laid A Ak lo k f) (hlo : lo ≤ k) (hk : k < Ak.slots.size) (hv : v = f k) : Laid A (Ak.setSlot k v) lo (k + 1) f := by
  refine ⟨h.1, h.2.1, by simpa [Cell.setSlot] using h.2.2.1, fun i => ?_⟩
  by_cases e : k = i
  · subst e; rw [Cell.slots_setSlot_self v hk, if_pos (by omega), hv]
  · rw [Cell.slots_setSlot_ne v e, h.2.2.2 i]
    by_cases q : lo ≤ i ∧ i < k
    · rw [if_pos q, if_pos (by omega)]
    · rw [if_neg q, if_neg (by omega)]
def U16 : String := "java/lang/StringUTF16"
namespace Cmp5
def yN : MethodName := ⟨"java/lang/StringUTF16", "compress", "([CI[BII)I"⟩
abbrev yB : ByteArray := jdk_52_method_21_code
theorem d0 : decode yB 0 = .ok (.iconst 0, 1) := by decide +kernel
theorem d1 : decode yB 1 = .ok (.istore 5, 2) := by decide +kernel
theorem d3 : decode yB 3 = .ok (.iload 5, 2) := by decide +kernel
theorem d5 : decode yB 5 = .ok (.iload 4, 2) := by decide +kernel
theorem d7 : decode yB 7 = .ok (.if_icmp (.ge) 37, 3) := by decide +kernel
theorem d10 : decode yB 10 = .ok (.aload_n 0, 1) := by decide +kernel
theorem d11 : decode yB 11 = .ok (.iload_n 1, 1) := by decide +kernel
theorem d12 : decode yB 12 = .ok (.caload, 1) := by decide +kernel
theorem d13 : decode yB 13 = .ok (.istore 6, 2) := by decide +kernel
theorem d15 : decode yB 15 = .ok (.iload 6, 2) := by decide +kernel
theorem d17 : decode yB 17 = .ok (.sipush 255, 3) := by decide +kernel
theorem d20 : decode yB 20 = .ok (.if_icmp (.le) 6, 3) := by decide +kernel
theorem d26 : decode yB 26 = .ok (.aload_n 2, 1) := by decide +kernel
theorem d27 : decode yB 27 = .ok (.iload_n 3, 1) := by decide +kernel
theorem d28 : decode yB 28 = .ok (.iload 6, 2) := by decide +kernel
theorem d30 : decode yB 30 = .ok (.i2b, 1) := by decide +kernel
theorem d31 : decode yB 31 = .ok (.bastore, 1) := by decide +kernel
theorem d32 : decode yB 32 = .ok (.iinc 1 1, 3) := by decide +kernel
theorem d35 : decode yB 35 = .ok (.iinc 3 1, 3) := by decide +kernel
theorem d38 : decode yB 38 = .ok (.iinc 5 1, 3) := by decide +kernel
theorem d41 : decode yB 41 = .ok (.goto (-38), 3) := by decide +kernel
theorem d44 : decode yB 44 = .ok (.iload 4, 2) := by decide +kernel
theorem d46 : decode yB 46 = .ok (.ireturn, 1) := by decide +kernel
def site : List Cond := []
def tab : Cond := tabOf yN yB 7 (some .int) site
def P (b : Addr) (A : Cell) (d : Addr) (B : Cell) (o q len : Nat) (args : Array Value) (s : State) : Prop := args = #[.ref b, .int (Int32.ofNat o), .ref d, .int (Int32.ofNat q), .int (Int32.ofNat len)] ∧ Ch b A s ∧ Arr .byte d B s ∧ b ≠ d ∧ o + len ≤ A.slots.size ∧ q + len ≤ B.slots.size ∧ ∀ i, i < len → ¬ 255 < cv A (o + i)
def E (b : Addr) (A : Cell) (d : Addr) (B : Cell) (o q len : Nat) (r : Option Value) (s u : State) : Prop := r = some (.int (Int32.ofNat len)) ∧ ∃ B', Put d B' s u ∧ Laid B B' q (q + len) (fun j => Value.int (lo8 (cv A (o + (j - q)))))
/-- no char of the range above 255: len; the places written hold each char's low byte -/
theorem law (l : Launch) (b : Addr) (A : Cell) (d : Addr) (B : Cell) (o q len : Nat) : Law l yN 5 5 0 0 yB 7 (some .int) site (P b A d B o q len) (E b A d B o q len) (copyLocs d q len) 0 0 := by
  refine Law.of_walk (plainFor_of_name (by decide +kernel)) (by decide +kernel) (by decide +kernel) (by decide) (fun _ _ h => by rw [h.1]; rfl) (fun _ U U' hal hh h => ⟨h.1, h.2.1.mv hal hh, h.2.2.1.mv hal hh, h.2.2.2⟩) (fun r U U' V V' h1 hal h2 h => ⟨h.1, h.2.elim fun B' q => ⟨B', q.1.mv h1 h2, q.2⟩⟩) ?_
  intro p e s m args below meth c s₁ X0 hexec hbytes hml hret hlk hnm hown hh0 W hP
  obtain ⟨rfl, hA, hB, hne, l1, l2, hp⟩ := hP
  have c1 : Steps p.tables e below (s₁.setTop (entryFrame m #[.ref b, .int (Int32.ofNat o), .ref d, .int (Int32.ofNat q), .int (Int32.ofNat len)] 7)) (s₁.setTop (mkF m 0 #[.val (.ref b), .val (.int (Int32.ofNat o)), .val (.ref d), .val (.int (Int32.ofNat q)), .val (.int (Int32.ofNat len)), .unset, .unset] [])) := entry rfl
  have hA0 := hA.1.mv X0.warmed.alike hh0
  have hB0 := hB.mv X0.warmed.alike hh0
  have a31 := hA.1.2.2.2
  have c2 : Steps p.tables e below (s₁.setTop (entryFrame m #[.ref b, .int (Int32.ofNat o), .ref d, .int (Int32.ofNat q), .int (Int32.ofNat len)] 7)) (s₁.setTop (mkF m 3 #[.val (.ref b), .val (.int (Int32.ofNat o)), .val (.ref d), .val (.int (Int32.ofNat q)), .val (.int (Int32.ofNat len)), .val (.int 0), .unset] [])) := c1.trans (by
    refine iconstV X0.here hexec rfl 0 (hb hbytes d0) (by decide) ?_
    refine XS.istore X0.here hexec rfl (hb hbytes d1) rfl rfl ?_
    exact Steps.refl _)
  have loop : ∀ (r i : Nat), i + r = len → ∀ (z : Slot), (z = .unset ∨ ∃ w, z = .val w ∧ w.category = 1) → ∀ (Tl : State) (Bk : Cell), Stand p l e { frames := 0, locals := 0, cells := 0, slots := 0 } s m #[.ref b, .int (Int32.ofNat o), .ref d, .int (Int32.ofNat q), .int (Int32.ofNat len)] below meth c Tl ([] ++ copyLocs d q i) 0 0 → Put d Bk s₁ Tl → Laid B Bk q (q + i) (fun j => Value.int (lo8 (cv A (o + (j - q))))) →
      Steps p.tables e below (s₁.setTop (entryFrame m #[.ref b, .int (Int32.ofNat o), .ref d, .int (Int32.ofNat q), .int (Int32.ofNat len)] 7)) (Tl.setTop (mkF m 3 #[.val (.ref b), .val (.int (Int32.ofNat (o + i))), .val (.ref d), .val (.int (Int32.ofNat (q + i))), .val (.int (Int32.ofNat len)), .val (.int (Int32.ofNat i)), z] [])) → ∃ (T' : State) (B' : Cell) (z' : Slot), Stand p l e { frames := 0, locals := 0, cells := 0, slots := 0 } s m #[.ref b, .int (Int32.ofNat o), .ref d, .int (Int32.ofNat q), .int (Int32.ofNat len)] below meth c T' ([] ++ copyLocs d q len) 0 0 ∧ Put d B' s₁ T' ∧ Laid B B' q (q + len) (fun j => Value.int (lo8 (cv A (o + (j - q))))) ∧
      Steps p.tables e below (s₁.setTop (entryFrame m #[.ref b, .int (Int32.ofNat o), .ref d, .int (Int32.ofNat q), .int (Int32.ofNat len)] 7)) (T'.setTop (mkF m 3 #[.val (.ref b), .val (.int (Int32.ofNat (o + len))), .val (.ref d), .val (.int (Int32.ofNat (q + len))), .val (.int (Int32.ofNat len)), .val (.int (Int32.ofNat len)), z'] [])) := by
    intro r
    induction r with
    | zero =>
      intro i hi z hz Tl Bk Xl pl fl cl
      have hil : i = len := by omega
      rw [hil] at Xl fl cl
      exact ⟨Tl, Bk, z, Xl, pl, fl, cl⟩
    | succ r ih =>
      intro i hi z hz Tl Bk Xl pl fl cl
      have all := X0.warmed.alike.symm.trans Xl.warmed.alike
      have hAl := hA0.keep all (pl.other hne hA0.1)
      have hBk := hB0.like all pl.1 fl.1 fl.2.1 fl.2.2.1
      have hlt : q + i < Bk.slots.size := by rw [fl.2.2.1]; omega
      have c3 : Steps p.tables e below (s₁.setTop (entryFrame m #[.ref b, .int (Int32.ofNat o), .ref d, .int (Int32.ofNat q), .int (Int32.ofNat len)] 7)) (Tl.setTop (mkF m 12 #[.val (.ref b), .val (.int (Int32.ofNat (o + i))), .val (.ref d), .val (.int (Int32.ofNat (q + i))), .val (.int (Int32.ofNat len)), .val (.int (Int32.ofNat i)), z] [.int (Int32.ofNat (o + i)), .ref b])) := cl.trans (by
        refine XS.iload Xl.here hexec rfl (hb hbytes d3) rfl ?_
        refine XS.iload Xl.here hexec rfl (hb hbytes d5) rfl ?_
        refine XS.icmpNo Xl.here hexec rfl (hb hbytes d7) rfl (ii_ge_f (lt32 (by omega) (by omega))) ?_
        refine XS.aloadN Xl.here hexec rfl (hb hbytes d10) rfl rfl ?_
        refine XS.iloadN Xl.here hexec rfl (hb hbytes d11) rfl ?_
        exact Steps.refl _)
      have c4 : Steps p.tables e below (s₁.setTop (entryFrame m #[.ref b, .int (Int32.ofNat o), .ref d, .int (Int32.ofNat q), .int (Int32.ofNat len)] 7)) (Tl.setTop (mkF m 13 #[.val (.ref b), .val (.int (Int32.ofNat (o + i))), .val (.ref d), .val (.int (Int32.ofNat (q + i))), .val (.int (Int32.ofNat len)), .val (.int (Int32.ofNat i)), z] [.int (cv A (o + i))])) := c3.trans (by
        refine Xl.aget hexec hAl rfl (hA.get (i := o + i) (by omega)) rfl rfl (hb hbytes d12) ?_
        exact Steps.refl _)
      have c5 : Steps p.tables e below (s₁.setTop (entryFrame m #[.ref b, .int (Int32.ofNat o), .ref d, .int (Int32.ofNat q), .int (Int32.ofNat len)] 7)) (Tl.setTop (mkF m 15 #[.val (.ref b), .val (.int (Int32.ofNat (o + i))), .val (.ref d), .val (.int (Int32.ofNat (q + i))), .val (.int (Int32.ofNat len)), .val (.int (Int32.ofNat i)), .val (.int (cv A (o + i)))] [])) := c4.trans (by
        refine XS.istoreS Xl.here hexec rfl (hb hbytes d13) rfl rfl hz ?_
        exact Steps.refl _)
      have c6 : Steps p.tables e below (s₁.setTop (entryFrame m #[.ref b, .int (Int32.ofNat o), .ref d, .int (Int32.ofNat q), .int (Int32.ofNat len)] 7)) (Tl.setTop (mkF m 31 #[.val (.ref b), .val (.int (Int32.ofNat (o + i))), .val (.ref d), .val (.int (Int32.ofNat (q + i))), .val (.int (Int32.ofNat len)), .val (.int (Int32.ofNat i)), .val (.int (cv A (o + i)))] [.int (lo8 (cv A (o + i))), .int (Int32.ofNat (q + i)), .ref d])) := c5.trans (by
        refine XS.iload Xl.here hexec rfl (hb hbytes d15) rfl ?_
        refine sipushV Xl.here hexec rfl 255 (hb hbytes d17) (by decide) ?_
        refine XS.icmpYes Xl.here hexec rfl (pc0 := 20) rfl (hb hbytes d20) rfl (ii_le_t (hp i (by omega))) (by decide) rfl ?_
        refine XS.aloadN Xl.here hexec rfl (hb hbytes d26) rfl rfl ?_
        refine XS.iloadN Xl.here hexec rfl (hb hbytes d27) rfl ?_
        refine XS.iload Xl.here hexec rfl (hb hbytes d28) rfl ?_
        refine i2b Xl.here hexec rfl (hb hbytes d30) rfl ?_
        exact Steps.refl _)
      obtain ⟨T7, X7, p7, st7⟩ := Xl.aput hexec hBk rfl hlt rfl (fits_lo8 (cv A (o + i))) (g := (mkF m 31 #[.val (.ref b), .val (.int (Int32.ofNat (o + i))), .val (.ref d), .val (.int (Int32.ofNat (q + i))), .val (.int (Int32.ofNat len)), .val (.int (Int32.ofNat i)), .val (.int (cv A (o + i)))] [.int (lo8 (cv A (o + i))), .int (Int32.ofNat (q + i)), .ref d])) rfl (rest := []) rfl (hb hbytes d31)
      have c8 : Steps p.tables e below (s₁.setTop (entryFrame m #[.ref b, .int (Int32.ofNat o), .ref d, .int (Int32.ofNat q), .int (Int32.ofNat len)] 7)) (T7.setTop (mkF m 32 #[.val (.ref b), .val (.int (Int32.ofNat (o + i))), .val (.ref d), .val (.int (Int32.ofNat (q + i))), .val (.int (Int32.ofNat len)), .val (.int (Int32.ofNat i)), .val (.int (cv A (o + i)))] [])) := c6.trans (st7 _ (Steps.refl _))
      have c9 : Steps p.tables e below (s₁.setTop (entryFrame m #[.ref b, .int (Int32.ofNat o), .ref d, .int (Int32.ofNat q), .int (Int32.ofNat len)] 7)) (T7.setTop (mkF m 3 #[.val (.ref b), .val (.int (Int32.ofNat (o + i) + 1)), .val (.ref d), .val (.int (Int32.ofNat (q + i) + 1)), .val (.int (Int32.ofNat len)), .val (.int (Int32.ofNat i + 1)), .val (.int (cv A (o + i)))] [])) := c8.trans (by
        refine iincV X7.here hexec rfl 1 (hb hbytes d32) (by decide) rfl rfl ?_
        refine iincV X7.here hexec rfl 1 (hb hbytes d35) (by decide) rfl rfl ?_
        refine iincV X7.here hexec rfl 1 (hb hbytes d38) (by decide) rfl rfl ?_
        refine XS.goto X7.here hexec rfl (pc0 := 41) rfl (hb hbytes d41) (by decide) rfl ?_
        exact Steps.refl _)
      have c10 : Steps p.tables e below (s₁.setTop (entryFrame m #[.ref b, .int (Int32.ofNat o), .ref d, .int (Int32.ofNat q), .int (Int32.ofNat len)] 7)) (T7.setTop (mkF m 3 #[.val (.ref b), .val (.int (Int32.ofNat (o + (i + 1)))), .val (.ref d), .val (.int (Int32.ofNat (q + (i + 1)))), .val (.int (Int32.ofNat len)), .val (.int (Int32.ofNat (i + 1))), .val (.int (cv A (o + i)))] [])) := by
        have := c9
        rw [succ32, succ32, succ32] at this
        exact this
      exact ih (i + 1) (by omega) _ (Or.inr ⟨_, rfl, rfl⟩) T7 _ (by rw [copyLocs_step, ← List.append_assoc]; exact X7) (pl.trans p7) (fl.step (by omega) hlt (by simp)) c10
  obtain ⟨T9, B9, z9, X9, p9, f9, g9⟩ := loop len 0 (by omega) .unset (Or.inl rfl) s₁ B (by simpa [copyLocs] using X0) ⟨hB0.1, fun _ _ => rfl, rfl⟩ (Laid.zero _ _ _) c2
  have c11 : Steps p.tables e below (s₁.setTop (entryFrame m #[.ref b, .int (Int32.ofNat o), .ref d, .int (Int32.ofNat q), .int (Int32.ofNat len)] 7)) (T9.setTop (mkF m 46 #[.val (.ref b), .val (.int (Int32.ofNat (o + len))), .val (.ref d), .val (.int (Int32.ofNat (q + len))), .val (.int (Int32.ofNat len)), .val (.int (Int32.ofNat len)), z9] [.int (Int32.ofNat len)])) := g9.trans (by
    refine XS.iload X9.here hexec rfl (hb hbytes d3) rfl ?_
    refine XS.iload X9.here hexec rfl (hb hbytes d5) rfl ?_
    refine XS.icmpYes X9.here hexec rfl (pc0 := 7) rfl (hb hbytes d7) rfl (ii_ge_t (nlt32 (by omega) (Nat.le_refl _))) (by decide) rfl ?_
    refine XS.iload X9.here hexec rfl (hb hbytes d44) rfl ?_
    exact Steps.refl _)
  exact ⟨T9, some (.int (Int32.ofNat len)), _, _, _, X9, by simp, rfl, rfl, (fun h => by cases h), ⟨rfl, B9, p9.from hh0, f9⟩, fun fs hl => c11.trans (X9.ireturnOut hexec hret rfl (Or.inl rfl) (hb hbytes d46) hl)⟩
end Cmp5
namespace Cmp3
def yN : MethodName := ⟨"java/lang/StringUTF16", "compress", "([CII)[B"⟩
abbrev yB : ByteArray := jdk_52_method_16_code
theorem d0 : decode yB 0 = .ok (.iload_n 2, 1) := by decide +kernel
theorem d1 : decode yB 1 = .ok (.newarray .byte, 2) := by decide +kernel
theorem d3 : decode yB 3 = .ok (.astore_n 3, 1) := by decide +kernel
theorem d4 : decode yB 4 = .ok (.aload_n 0, 1) := by decide +kernel
theorem d5 : decode yB 5 = .ok (.iload_n 1, 1) := by decide +kernel
theorem d6 : decode yB 6 = .ok (.aload_n 3, 1) := by decide +kernel
theorem d7 : decode yB 7 = .ok (.iconst 0, 1) := by decide +kernel
theorem d8 : decode yB 8 = .ok (.iload_n 2, 1) := by decide +kernel
theorem d9 : decode yB 9 = .ok (.invokestatic 115, 3) := by decide +kernel
theorem d12 : decode yB 12 = .ok (.istore 4, 2) := by decide +kernel
theorem d14 : decode yB 14 = .ok (.iload 4, 2) := by decide +kernel
theorem d16 : decode yB 16 = .ok (.iload_n 2, 1) := by decide +kernel
theorem d17 : decode yB 17 = .ok (.if_icmp (.eq) 40, 3) := by decide +kernel
theorem d57 : decode yB 57 = .ok (.aload_n 3, 1) := by decide +kernel
theorem d58 : decode yB 58 = .ok (.areturn, 1) := by decide +kernel
def site : List Cond := [.arrayClass .byte, Cmp5.tab] ++ staticW U16 115 Cmp5.yN
def tab : Cond := tabOf yN yB 6 (some (.array .byte)) site
def P (b : Addr) (A : Cell) (o len : Nat) (args : Array Value) (s : State) : Prop := args = #[.ref b, .int (Int32.ofNat o), .int (Int32.ofNat len)] ∧ Ch b A s ∧ o + len ≤ A.slots.size ∧ len ≤ 536870912 ∧ ∀ i, i < len → ¬ 255 < cv A (o + i)
def E (b : Addr) (A : Cell) (o len : Nat) (r : Option Value) (s u : State) : Prop := NewArr .byte "[B" len (fun j => .int (lo8 (cv A (o + j)))) r s u ∧ u.heap.size = s.heap.size + 1
/-- no char of the range above 255: a new byte[] of their low bytes -/
theorem law (l : Launch) (b : Addr) (A : Cell) (o len : Nat) : Law l yN 3 3 1 18 yB 6 (some (.array .byte)) site (P b A o len) (E b A o len) [] 1 len := by
  refine Law.of_walk (plainFor_of_name (by decide +kernel)) (by decide +kernel) (by decide +kernel) (by decide) (fun _ _ h => by rw [h.1]; rfl) (fun _ U U' hal hh h => ⟨h.1, h.2.1.mv hal hh, h.2.2⟩) (fun r U U' V V' h1 hal h2 h => ⟨NewArr.mv r U U' V V' h1 hal h2 h.1, by rw [h1, h2]; exact h.2⟩) ?_
  intro p e s m args below meth c s₁ X0 hexec hbytes hml hret hlk hnm hown hh0 W hP
  obtain ⟨rfl, hA, l1, l2, hp⟩ := hP
  have a31 := hA.1.2.2.2
  have c1 : Steps p.tables e below (s₁.setTop (entryFrame m #[.ref b, .int (Int32.ofNat o), .int (Int32.ofNat len)] 6)) (s₁.setTop (mkF m 0 #[.val (.ref b), .val (.int (Int32.ofNat o)), .val (.int (Int32.ofNat len)), .unset, .unset, .unset] [])) := entry rfl
  have c2 : Steps p.tables e below (s₁.setTop (entryFrame m #[.ref b, .int (Int32.ofNat o), .int (Int32.ofNat len)] 6)) (s₁.setTop (mkF m 1 #[.val (.ref b), .val (.int (Int32.ofNat o)), .val (.int (Int32.ofNat len)), .unset, .unset, .unset] [.int (Int32.ofNat len)])) := c1.trans (by
    refine XS.iloadN X0.here hexec rfl (hb hbytes d0) rfl ?_
    exact Steps.refl _)
  obtain ⟨T3, B3, X3, ba3, bs3, bv3, bh3, bf3, st3⟩ := X0.anew hexec (atype := .byte) (wk W (.arrayClass .byte)) rfl (by show len * 1 ≤ _; omega) (by omega) (g := (mkF m 1 #[.val (.ref b), .val (.int (Int32.ofNat o)), .val (.int (Int32.ofNat len)), .unset, .unset, .unset] [.int (Int32.ofNat len)])) rfl (hb hbytes d1) (rest := []) rfl (Nat.le_refl _) (by show 0 + len ≤ len; omega)
  rw [hh0] at ba3 st3
  have kp3 : XT.Kept s T3 := (XT.Kept.of_eq hh0).push bh3
  have hA3 := hA.keep X3.warmed.alike (kp3 _ _ hA.1.1)
  have hne : b ≠ s.heap.size := hA.1.ne
  have c4 : Steps p.tables e below (s₁.setTop (entryFrame m #[.ref b, .int (Int32.ofNat o), .int (Int32.ofNat len)] 6)) (T3.setTop (mkF m 3 #[.val (.ref b), .val (.int (Int32.ofNat o)), .val (.int (Int32.ofNat len)), .unset, .unset, .unset] [.ref s.heap.size])) := c2.trans (st3 _ (Steps.refl _))
  have c5 : Steps p.tables e below (s₁.setTop (entryFrame m #[.ref b, .int (Int32.ofNat o), .int (Int32.ofNat len)] 6)) (T3.setTop (mkF m 9 #[.val (.ref b), .val (.int (Int32.ofNat o)), .val (.int (Int32.ofNat len)), .val (.ref s.heap.size), .unset, .unset] [.int (Int32.ofNat len), .int 0, .ref s.heap.size, .int (Int32.ofNat o), .ref b])) := c4.trans (by
    refine XS.astoreN X3.here hexec rfl (hb hbytes d3) rfl rfl rfl ?_
    refine XS.aloadN X3.here hexec rfl (hb hbytes d4) rfl rfl ?_
    refine XS.iloadN X3.here hexec rfl (hb hbytes d5) rfl ?_
    refine XS.aloadN X3.here hexec rfl (hb hbytes d6) rfl rfl ?_
    refine iconstV X3.here hexec rfl 0 (hb hbytes d7) (by decide) ?_
    refine XS.iloadN X3.here hexec rfl (hb hbytes d8) rfl ?_
    exact Steps.refl _)
  obtain ⟨v6, T6, X6, E6, g6⟩ := X3.callS hexec (Cmp5.law l b A s.heap.size B3 o 0 len) hown (wks W (staticW U16 115 Cmp5.yN)) (wk W Cmp5.tab) (W := 0) (Nat.le_of_ble_eq_true rfl) (Nat.le_of_ble_eq_true rfl) (Nat.le_refl _) (by show 0 + len + 0 ≤ len; omega) (g := (mkF m 9 #[.val (.ref b), .val (.int (Int32.ofNat o)), .val (.int (Int32.ofNat len)), .val (.ref s.heap.size), .unset, .unset] [.int (Int32.ofNat len), .int (Int32.ofNat 0), .ref s.heap.size, .int (Int32.ofNat o), .ref b])) rfl (by rw [hml]; rfl) c5 (argsL := [.ref b, .int (Int32.ofNat o), .ref s.heap.size, .int (Int32.ofNat 0), .int (Int32.ofNat len)]) (rest := []) rfl rfl (by show 2 * 0 + 0 ≤ _; decide) (hb hbytes d9) (⟨rfl, hA3, ba3, hne, l1, by rw [bs3]; simp, hp⟩)
  obtain ⟨rfl, B6, p6, f6⟩ := E6
  have c7 : Steps p.tables e below (s₁.setTop (entryFrame m #[.ref b, .int (Int32.ofNat o), .int (Int32.ofNat len)] 6)) (T6.setTop (mkF m 12 #[.val (.ref b), .val (.int (Int32.ofNat o)), .val (.int (Int32.ofNat len)), .val (.ref s.heap.size), .unset, .unset] [.int (Int32.ofNat len)])) := g6
  have c8 : Steps p.tables e below (s₁.setTop (entryFrame m #[.ref b, .int (Int32.ofNat o), .int (Int32.ofNat len)] 6)) (T6.setTop (mkF m 58 #[.val (.ref b), .val (.int (Int32.ofNat o)), .val (.int (Int32.ofNat len)), .val (.ref s.heap.size), .val (.int (Int32.ofNat len)), .unset] [.ref s.heap.size])) := c7.trans (by
    refine XS.istore X6.here hexec rfl (hb hbytes d12) rfl rfl ?_
    refine XS.iload X6.here hexec rfl (hb hbytes d14) rfl ?_
    refine XS.iloadN X6.here hexec rfl (hb hbytes d16) rfl ?_
    refine XS.icmpYes X6.here hexec rfl (pc0 := 17) rfl (hb hbytes d17) rfl (ii_eq_t rfl) (by decide) rfl ?_
    refine XS.aloadN X6.here hexec rfl (hb hbytes d57) rfl rfl ?_
    exact Steps.refl _)
  have X8 := X6.wide (L' := []) (cells' := 1) (slots' := len) (fun x hx hlt => by
    simp only [List.nil_append, copyLocs, List.mem_map, List.mem_range] at hx
    obtain ⟨i, -, rfl⟩ := hx
    exact absurd hlt (Nat.lt_irrefl _)) (Nat.le_refl _) (by omega)
  exact ⟨T6, some (.ref s.heap.size), _, _, _, X8, rfl, rfl, rfl, (fun h => by cases h), ⟨⟨rfl, B6, ba3.like (X3.warmed.alike.symm.trans X6.warmed.alike) p6.1 f6.1 f6.2.1 f6.2.2.1, f6.2.1.trans bv3, by rw [X6.warmed.alike.findClass, f6.1]; exact bf3, by rw [f6.2.2.1, bs3]; simp, fun j hj => by rw [f6.2.2.2 j, if_pos (by omega)]; rfl, kp3.put p6 (Nat.le_refl _)⟩, by rw [p6.2.2, bh3, hh0]; simp⟩, fun fs hl => c8.trans (X8.areturnOut hexec rfl hret rfl (hb hbytes d58) hl)⟩
end Cmp3
namespace CodL
def yN : MethodName := ⟨"java/lang/StringUTF16", "coderFromArrayLen", "([BI)B"⟩
abbrev yB : ByteArray := jdk_52_method_15_code
theorem d0 : decode yB 0 = .ok (.iload_n 1, 1) := by decide +kernel
theorem d1 : decode yB 1 = .ok (.aload_n 0, 1) := by decide +kernel
theorem d2 : decode yB 2 = .ok (.arraylength, 1) := by decide +kernel
theorem d3 : decode yB 3 = .ok (.isub, 1) := by decide +kernel
theorem d4 : decode yB 4 = .ok (.bipush 31, 2) := by decide +kernel
theorem d6 : decode yB 6 = .ok (.iushr, 1) := by decide +kernel
theorem d7 : decode yB 7 = .ok (.i2b, 1) := by decide +kernel
theorem d8 : decode yB 8 = .ok (.ireturn, 1) := by decide +kernel
def site : List Cond := []
def tab : Cond := tabOf yN yB 2 (some .byte) site
def P (d : Addr) (B : Cell) (args : Array Value) (s : State) : Prop := args = #[.ref d, .int (Int32.ofNat B.slots.size)] ∧ Arr .byte d B s
def E (r : Option Value) (s u : State) : Prop := XT.PureE (some (.int 0)) r s u
/-- an array as long as the number of chars: LATIN1 -/
theorem law (l : Launch) (d : Addr) (B : Cell) : Law l yN 2 2 0 0 yB 2 (some .byte) site (P d B) E [] 0 0 := by
  refine Law.of_walk (plainFor_of_name (by decide +kernel)) (by decide +kernel) (by decide +kernel) (by decide) (fun _ _ h => by rw [h.1]; rfl) (fun _ U U' hal hh h => ⟨h.1, h.2.mv hal hh⟩) (fun r U U' V V' h1 hal h2 h => XT.PureE.mv r U U' V V' h1 hal h2 h) ?_
  intro p e s m args below meth c s₁ X0 hexec hbytes hml hret hlk hnm hown hh0 W hP
  obtain ⟨rfl, hB⟩ := hP
  have hB0 := hB.mv X0.warmed.alike hh0
  have c1 : Steps p.tables e below (s₁.setTop (entryFrame m #[.ref d, .int (Int32.ofNat B.slots.size)] 2)) (s₁.setTop (mkF m 0 #[.val (.ref d), .val (.int (Int32.ofNat B.slots.size))] [])) := entry rfl
  have c2 : Steps p.tables e below (s₁.setTop (entryFrame m #[.ref d, .int (Int32.ofNat B.slots.size)] 2)) (s₁.setTop (mkF m 2 #[.val (.ref d), .val (.int (Int32.ofNat B.slots.size))] [.ref d, .int (Int32.ofNat B.slots.size)])) := c1.trans (by
    refine XS.iloadN X0.here hexec rfl (hb hbytes d0) rfl ?_
    refine XS.aloadN X0.here hexec rfl (hb hbytes d1) rfl rfl ?_
    exact Steps.refl _)
  have c3 : Steps p.tables e below (s₁.setTop (entryFrame m #[.ref d, .int (Int32.ofNat B.slots.size)] 2)) (s₁.setTop (mkF m 8 #[.val (.ref d), .val (.int (Int32.ofNat B.slots.size))] [.int (lo8 (ushr (Int32.ofNat B.slots.size - Int32.ofNat B.slots.size) 31))])) := c2.trans (by
    refine X0.alen hexec hB0 rfl rfl (hb hbytes d2) ?_
    refine XS.isub X0.here hexec rfl (hb hbytes d3) rfl ?_
    refine bipushV X0.here hexec rfl 31 (hb hbytes d4) (by decide) ?_
    refine iushr X0.here hexec rfl (hb hbytes d6) rfl ?_
    refine i2b X0.here hexec rfl (hb hbytes d7) rfl ?_
    exact Steps.refl _)
  have e0 : lo8 (ushr (Int32.ofNat B.slots.size - Int32.ofNat B.slots.size) 31) = 0 := by rw [Int32.sub_self]; decide
  rw [e0] at c3
  exact ⟨s₁, some (.int 0), _, _, _, X0, rfl, rfl, rfl, (fun h => by cases h), ⟨rfl, hh0⟩, fun fs hl => c3.trans (X0.ireturnOut hexec hret rfl (Or.inr (Or.inr (Or.inl rfl))) (hb hbytes d8) hl)⟩
end CodL
/-- the String at a is Latin-1 over a new byte[] (the heap's one new cell): the low bytes of the len chars of A from o on; every cell but a is kept -/
def Got (a : Addr) (D : Cell) (fV fC : Field) (A : Cell) (o len : Nat) (r : Option Value) (s u : State) : Prop := r = none ∧ ∃ D' V : Cell, Blank "java/lang/String" a D' u ∧ Same D D' [fV.slot, fC.slot] ∧ D'.slots[fV.slot]? = some (.ref s.heap.size) ∧ D'.slots[fC.slot]? = some (.int 0) ∧ Arr .byte s.heap.size V u ∧ V.vm = .none ∧ u.vm.findClass "[B" = some V.cls ∧ V.slots.size = len ∧ (∀ j, j < len → V.slots[j]? = some (.int (lo8 (cv A (o + j))))) ∧ (∀ (y : Addr) (c : Cell), y ≠ a → s.heap[y]? = some c → u.heap[y]? = some c) ∧ u.heap.size = s.heap.size + 1
theorem Got.mv {a : Addr} {D A : Cell} {fV fC : Field} {o len : Nat} : ∀ r (U U' V V' : State), U'.heap = U.heap → V.vm.Alike V'.vm → V'.heap = V.heap → Got a D fV fC A o len r U V → Got a D fV fC A o len r U' V' :=
  fun r U U' V V' h1 hal h2 ⟨e0, D', X, a1, a2, a3, a4, a5, a6, a7, a8, a9, a10, a11⟩ => ⟨e0, D', X, a1.mv hal h2, a2, by rw [h1]; exact a3, a4, by rw [h1]; exact a5.mv hal h2, a6, by rw [hal.findClass]; exact a7, a8, a9, by rw [h1, h2]; exact a10, by rw [h1, h2]; exact a11⟩
namespace New4
def yN : MethodName := ⟨"java/lang/String", "<init>", "([CIILjava/lang/Void;)V"⟩
abbrev yB : ByteArray := jdk_42_method_149_code
theorem d0 : decode yB 0 = .ok (.aload_n 0, 1) := by decide +kernel
theorem d1 : decode yB 1 = .ok (.invokespecial 1, 3) := by decide +kernel
theorem d4 : decode yB 4 = .ok (.iload_n 3, 1) := by decide +kernel
theorem d5 : decode yB 5 = .ok (.ifCond (.ne) 22, 3) := by decide +kernel
theorem d27 : decode yB 27 = .ok (.getstatic 38, 3) := by decide +kernel
theorem d30 : decode yB 30 = .ok (.ifCond (.eq) 28, 3) := by decide +kernel
theorem d33 : decode yB 33 = .ok (.aload_n 1, 1) := by decide +kernel
theorem d34 : decode yB 34 = .ok (.iload_n 2, 1) := by decide +kernel
theorem d35 : decode yB 35 = .ok (.iload_n 3, 1) := by decide +kernel
theorem d36 : decode yB 36 = .ok (.invokestatic 177, 3) := by decide +kernel
theorem d39 : decode yB 39 = .ok (.astore 5, 2) := by decide +kernel
theorem d41 : decode yB 41 = .ok (.aload_n 0, 1) := by decide +kernel
theorem d42 : decode yB 42 = .ok (.aload 5, 2) := by decide +kernel
theorem d44 : decode yB 44 = .ok (.iload_n 3, 1) := by decide +kernel
theorem d45 : decode yB 45 = .ok (.invokestatic 47, 3) := by decide +kernel
theorem d48 : decode yB 48 = .ok (.putfield 15, 3) := by decide +kernel
theorem d51 : decode yB 51 = .ok (.aload_n 0, 1) := by decide +kernel
theorem d52 : decode yB 52 = .ok (.aload 5, 2) := by decide +kernel
theorem d54 : decode yB 54 = .ok (.putfield 9, 3) := by decide +kernel
theorem d57 : decode yB 57 = .ok (.return_, 1) := by decide +kernel
def site : List Cond := [.fieldLink "java/lang/String" 38 "java/lang/String" "COMPACT_STRINGS" "Z", Cmp3.tab, CodL.tab, .laysFinal "java/lang/String" "java/lang/String" "value" "[B", .fieldLink "java/lang/String" 9 "java/lang/String" "value" "[B", .laysFinal "java/lang/String" "java/lang/String" "coder" "B", .fieldLink "java/lang/String" 15 "java/lang/String" "coder" "B"] ++ objW "java/lang/String" 1 ++ staticW "java/lang/String" 177 Cmp3.yN ++ staticW "java/lang/String" 47 CodL.yN
def tab : Cond := tabOf yN yB 6 none site
def P (a : Addr) (D : Cell) (fV fC : Field) (b : Addr) (A : Cell) (z : Int32) (o len : Nat) (args : Array Value) (s : State) : Prop := args = #[.ref a, .ref b, .int (Int32.ofNat o), .int (Int32.ofNat len), .null] ∧ Blank "java/lang/String" a D s ∧ Found "java/lang/String" "value" "[B" fV s ∧ Found "java/lang/String" "coder" "B" fC s ∧ Ch b A s ∧ StaticIs s "java/lang/String" "COMPACT_STRINGS" "Z" (.int z) ∧ ¬ z = 0 ∧ 0 < len ∧ o + len ≤ A.slots.size ∧ len ≤ 536870912 ∧ ∀ i, i < len → ¬ 255 < cv A (o + i)
def E (a : Addr) (D : Cell) (fV fC : Field) (A : Cell) (o len : Nat) (r : Option Value) (s u : State) : Prop := Got a D fV fC A o len r s u
/-- len > 0, no char of the range above 255: a Latin-1 String of their low bytes -/
theorem law (l : Launch) (a : Addr) (D : Cell) (fV fC : Field) (b : Addr) (A : Cell) (z : Int32) (o len : Nat) : Law l yN 5 4 2 35 yB 6 none site (P a D fV fC b A z o len) (E a D fV fC A o len) [⟨a, fC.slot⟩, ⟨a, fV.slot⟩] 1 len := by
  refine Law.of_walk (plainFor_of_name (by decide +kernel)) (by decide +kernel) (by decide +kernel) (by decide) (fun _ _ h => by rw [h.1]; rfl) (fun _ U U' hal hh h => ⟨h.1, h.2.1.mv hal hh, h.2.2.1.al hal, h.2.2.2.1.al hal, h.2.2.2.2.1.mv hal hh, h.2.2.2.2.2.1.there hal hh, h.2.2.2.2.2.2⟩) (fun r U U' V V' h1 hal h2 h => Got.mv r U U' V V' h1 hal h2 h) ?_
  intro p e s m args below meth c s₁ X0 hexec hbytes hml hret hlk hnm hown hh0 W hP
  obtain ⟨rfl, hB, f1, f2, hA, s1, hz, l0, l1, l2, hp⟩ := hP
  have a31 := hA.1.2.2.2
  have c1 : Steps p.tables e below (s₁.setTop (entryFrame m #[.ref a, .ref b, .int (Int32.ofNat o), .int (Int32.ofNat len), .null] 6)) (s₁.setTop (mkF m 0 #[.val (.ref a), .val (.ref b), .val (.int (Int32.ofNat o)), .val (.int (Int32.ofNat len)), .val .null, .unset] [])) := entry rfl
  have c2 : Steps p.tables e below (s₁.setTop (entryFrame m #[.ref a, .ref b, .int (Int32.ofNat o), .int (Int32.ofNat len), .null] 6)) (s₁.setTop (mkF m 1 #[.val (.ref a), .val (.ref b), .val (.int (Int32.ofNat o)), .val (.int (Int32.ofNat len)), .val .null, .unset] [.ref a])) := c1.trans (by
    refine XS.aloadN X0.here hexec rfl (hb hbytes d0) rfl rfl ?_
    exact Steps.refl _)
  obtain ⟨T3, X3, q3, st3⟩ := X0.oinit hexec hown (wks W (objW "java/lang/String" 1)) (g := (mkF m 1 #[.val (.ref a), .val (.ref b), .val (.int (Int32.ofNat o)), .val (.int (Int32.ofNat len)), .val .null, .unset] [.ref a])) rfl (by rw [hml]; rfl) (rest := []) rfl (hb hbytes d1) (W := 0) (by show 2 * 0 + 0 ≤ _; decide) (Nat.le_of_ble_eq_true rfl) (Nat.le_of_ble_eq_true rfl)
  have hh3 := q3.trans hh0
  have c4 : Steps p.tables e below (s₁.setTop (entryFrame m #[.ref a, .ref b, .int (Int32.ofNat o), .int (Int32.ofNat len), .null] 6)) (T3.setTop (mkF m 27 #[.val (.ref a), .val (.ref b), .val (.int (Int32.ofNat o)), .val (.int (Int32.ofNat len)), .val .null, .unset] [])) := (c2.trans (st3 _ (Steps.refl _))).trans (by
    refine XS.iloadN X3.here hexec rfl (hb hbytes d4) rfl ?_
    refine XS.ifYes X3.here hexec rfl (pc0 := 5) rfl (hb hbytes d5) rfl (i0_ne_t (nz32 (by omega) l0)) (by decide) rfl ?_
    exact Steps.refl _)
  obtain ⟨T5, X5, q5, st5⟩ := X3.sget hexec hown (wk W (.fieldLink "java/lang/String" 38 "java/lang/String" "COMPACT_STRINGS" "Z")) s1 (fun _ _ h => by rw [hh3]; exact h) (g := (mkF m 27 #[.val (.ref a), .val (.ref b), .val (.int (Int32.ofNat o)), .val (.int (Int32.ofNat len)), .val .null, .unset] [])) rfl (hb hbytes d27)
  have hh5 := q5.trans hh3
  have c6 : Steps p.tables e below (s₁.setTop (entryFrame m #[.ref a, .ref b, .int (Int32.ofNat o), .int (Int32.ofNat len), .null] 6)) (T5.setTop (mkF m 30 #[.val (.ref a), .val (.ref b), .val (.int (Int32.ofNat o)), .val (.int (Int32.ofNat len)), .val .null, .unset] [.int z])) := c4.trans (st5 _ (Steps.refl _))
  have c7 : Steps p.tables e below (s₁.setTop (entryFrame m #[.ref a, .ref b, .int (Int32.ofNat o), .int (Int32.ofNat len), .null] 6)) (T5.setTop (mkF m 36 #[.val (.ref a), .val (.ref b), .val (.int (Int32.ofNat o)), .val (.int (Int32.ofNat len)), .val .null, .unset] [.int (Int32.ofNat len), .int (Int32.ofNat o), .ref b])) := c6.trans (by
    refine XS.ifNo X5.here hexec rfl (hb hbytes d30) rfl (i0_eq_f hz) ?_
    refine XS.aloadN X5.here hexec rfl (hb hbytes d33) rfl rfl ?_
    refine XS.iloadN X5.here hexec rfl (hb hbytes d34) rfl ?_
    refine XS.iloadN X5.here hexec rfl (hb hbytes d35) rfl ?_
    exact Steps.refl _)
  obtain ⟨v8, T8, X8, E8, g8⟩ := X5.callS hexec (Cmp3.law l b A o len) hown (wks W (staticW "java/lang/String" 177 Cmp3.yN)) (wk W Cmp3.tab) (W := 0) (Nat.le_of_ble_eq_true rfl) (Nat.le_of_ble_eq_true rfl) (Nat.le_refl _) (by show 0 + len ≤ len; omega) (g := (mkF m 36 #[.val (.ref a), .val (.ref b), .val (.int (Int32.ofNat o)), .val (.int (Int32.ofNat len)), .val .null, .unset] [.int (Int32.ofNat len), .int (Int32.ofNat o), .ref b])) rfl (by rw [hml]; rfl) c7 (argsL := [.ref b, .int (Int32.ofNat o), .int (Int32.ofNat len)]) (rest := []) rfl rfl (by show 2 * 0 + 0 ≤ _; decide) (hb hbytes d36) (⟨rfl, hA.mv X5.warmed.alike hh5, l1, l2, hp⟩)
  obtain ⟨e8, z8⟩ := E8
  obtain ⟨rfl, N, n1, n2, n3, n4, n5, n6⟩ := NewArr.mv _ T5 s _ _ hh5.symm (Vm.Alike.refl _) rfl e8
  rw [hh5] at z8
  have hB1 := hB.keep X8.warmed.alike (n6 _ _ hB.1)
  have hne : s.heap.size ≠ a := (Nat.ne_of_lt (Array.getElem?_eq_some_iff.mp hB.1).1).symm
  have c9 : Steps p.tables e below (s₁.setTop (entryFrame m #[.ref a, .ref b, .int (Int32.ofNat o), .int (Int32.ofNat len), .null] 6)) (T8.setTop (mkF m 39 #[.val (.ref a), .val (.ref b), .val (.int (Int32.ofNat o)), .val (.int (Int32.ofNat len)), .val .null, .unset] [.ref s.heap.size])) := g8
  have c10 : Steps p.tables e below (s₁.setTop (entryFrame m #[.ref a, .ref b, .int (Int32.ofNat o), .int (Int32.ofNat len), .null] 6)) (T8.setTop (mkF m 45 #[.val (.ref a), .val (.ref b), .val (.int (Int32.ofNat o)), .val (.int (Int32.ofNat len)), .val .null, .val (.ref s.heap.size)] [.int (Int32.ofNat N.slots.size), .ref s.heap.size, .ref a])) := by
    have hc : Steps p.tables e below (s₁.setTop (entryFrame m #[.ref a, .ref b, .int (Int32.ofNat o), .int (Int32.ofNat len), .null] 6)) (T8.setTop (mkF m 45 #[.val (.ref a), .val (.ref b), .val (.int (Int32.ofNat o)), .val (.int (Int32.ofNat len)), .val .null, .val (.ref s.heap.size)] [.int (Int32.ofNat len), .ref s.heap.size, .ref a])) := c9.trans (by
      refine XS.astore X8.here hexec rfl (hb hbytes d39) rfl rfl rfl ?_
      refine XS.aloadN X8.here hexec rfl (hb hbytes d41) rfl rfl ?_
      refine XS.aload X8.here hexec rfl (hb hbytes d42) rfl rfl ?_
      refine XS.iloadN X8.here hexec rfl (hb hbytes d44) rfl ?_
      exact Steps.refl _)
    rw [n4]; exact hc
  obtain ⟨v11, T11, X11, E11, g11⟩ := X8.callS hexec (CodL.law l s.heap.size N) hown (wks W (staticW "java/lang/String" 47 CodL.yN)) (wk W CodL.tab) (W := 1) (Nat.le_of_ble_eq_true rfl) (Nat.le_of_ble_eq_true rfl) (Nat.le_refl _) (by show 0 + len + 0 ≤ len; omega) (g := (mkF m 45 #[.val (.ref a), .val (.ref b), .val (.int (Int32.ofNat o)), .val (.int (Int32.ofNat len)), .val .null, .val (.ref s.heap.size)] [.int (Int32.ofNat N.slots.size), .ref s.heap.size, .ref a])) rfl (by rw [hml]; rfl) c10 (argsL := [.ref s.heap.size, .int (Int32.ofNat N.slots.size)]) (rest := [.ref a]) rfl rfl (by show 2 * 0 + (1 + 0) ≤ _; decide) (hb hbytes d45) (⟨rfl, n1⟩)
  obtain ⟨rfl, q11⟩ := E11
  have hB11 := hB1.mv (X8.warmed.alike.symm.trans X11.warmed.alike) q11
  have c12 : Steps p.tables e below (s₁.setTop (entryFrame m #[.ref a, .ref b, .int (Int32.ofNat o), .int (Int32.ofNat len), .null] 6)) (T11.setTop (mkF m 48 #[.val (.ref a), .val (.ref b), .val (.int (Int32.ofNat o)), .val (.int (Int32.ofNat len)), .val .null, .val (.ref s.heap.size)] [.int 0, .ref a])) := g11
  obtain ⟨T13, X13, p13, bl13, sl13, st13⟩ := X11.finit hexec hown (wk W (.fieldLink "java/lang/String" 15 "java/lang/String" "coder" "B")) (Or.inr ⟨_, (wk W (.laysFinal "java/lang/String" "java/lang/String" "coder" "B"))⟩) (Or.inl ⟨rfl, hnm⟩) f2 (Or.inl rfl) hB11 (t := .byte) (by decide +kernel) rfl (g := (mkF m 48 #[.val (.ref a), .val (.ref b), .val (.int (Int32.ofNat o)), .val (.int (Int32.ofNat len)), .val .null, .val (.ref s.heap.size)] [.int 0, .ref a])) rfl (rest := []) rfl (hb hbytes d48)
  have c14 : Steps p.tables e below (s₁.setTop (entryFrame m #[.ref a, .ref b, .int (Int32.ofNat o), .int (Int32.ofNat len), .null] 6)) (T13.setTop (mkF m 54 #[.val (.ref a), .val (.ref b), .val (.int (Int32.ofNat o)), .val (.int (Int32.ofNat len)), .val .null, .val (.ref s.heap.size)] [.ref s.heap.size, .ref a])) := (c12.trans (st13 _ (Steps.refl _))).trans (by
    refine XS.aloadN X13.here hexec rfl (hb hbytes d51) rfl rfl ?_
    refine XS.aload X13.here hexec rfl (hb hbytes d52) rfl rfl ?_
    exact Steps.refl _)
  obtain ⟨T15, X15, p15, bl15, sl15, st15⟩ := X13.finit hexec hown (wk W (.fieldLink "java/lang/String" 9 "java/lang/String" "value" "[B")) (Or.inr ⟨_, (wk W (.laysFinal "java/lang/String" "java/lang/String" "value" "[B"))⟩) (Or.inl ⟨rfl, hnm⟩) f1 (Or.inl rfl) bl13 (t := (.array .byte)) (by decide +kernel) rfl (g := (mkF m 54 #[.val (.ref a), .val (.ref b), .val (.int (Int32.ofNat o)), .val (.int (Int32.ofNat len)), .val .null, .val (.ref s.heap.size)] [.ref s.heap.size, .ref a])) rfl (rest := []) rfl (hb hbytes d54)
  have c16 : Steps p.tables e below (s₁.setTop (entryFrame m #[.ref a, .ref b, .int (Int32.ofNat o), .int (Int32.ofNat len), .null] 6)) (T15.setTop (mkF m 57 #[.val (.ref a), .val (.ref b), .val (.int (Int32.ofNat o)), .val (.int (Int32.ofNat len)), .val .null, .val (.ref s.heap.size)] [])) := c14.trans (st15 _ (Steps.refl _))
  have ap := apart (Or.inr ⟨_, (wk W (.laysFinal "java/lang/String" "java/lang/String" "value" "[B"))⟩) (Or.inr ⟨_, (wk W (.laysFinal "java/lang/String" "java/lang/String" "coder" "B"))⟩) f1 f2 (t₁ := .array .byte) (t₂ := .byte) (by decide +kernel) (by decide +kernel) (by decide)
  have al := X8.warmed.alike.symm.trans X15.warmed.alike
  have n7 : T11.heap[s.heap.size]? = some N := by rw [q11]; exact n1.1
  exact ⟨T15, none, _, _, _, X15, by simp, rfl, by omega, (fun _ => rfl), ⟨rfl, _, N, bl15, ((Same.refl D _).set _ (by simp)).set _ (by simp), sl15, (Cell.slots_setSlot_ne _ ap).trans sl13, n1.keep al (p15.other hne (p13.other hne n7)), n2, by rw [al.findClass]; exact n3, n4, n5, fun y c h1 h2 => p15.other h1 (p13.other h1 (by rw [q11]; exact n6 y c h2)), by rw [p15.2.2, p13.2.2, q11]; exact z8⟩, fun fs hl => c16.trans (X15.returnOut hexec hret (hb hbytes d57) hl)⟩
end New4
namespace New1
def yN : MethodName := ⟨"java/lang/String", "<init>", "([C)V"⟩
abbrev yB : ByteArray := jdk_42_method_3_code
theorem d0 : decode yB 0 = .ok (.aload_n 0, 1) := by decide +kernel
theorem d1 : decode yB 1 = .ok (.aload_n 1, 1) := by decide +kernel
theorem d2 : decode yB 2 = .ok (.iconst 0, 1) := by decide +kernel
theorem d3 : decode yB 3 = .ok (.aload_n 1, 1) := by decide +kernel
theorem d4 : decode yB 4 = .ok (.arraylength, 1) := by decide +kernel
theorem d5 : decode yB 5 = .ok (.aconst_null, 1) := by decide +kernel
theorem d6 : decode yB 6 = .ok (.invokespecial 27, 3) := by decide +kernel
theorem d9 : decode yB 9 = .ok (.return_, 1) := by decide +kernel
def site : List Cond := [New4.tab] ++ initW "java/lang/String" 27 New4.yN
def tab : Cond := tabOf yN yB 2 none site
def P (a : Addr) (D : Cell) (fV fC : Field) (b : Addr) (A : Cell) (z : Int32) (args : Array Value) (s : State) : Prop := args = #[.ref a, .ref b] ∧ Blank "java/lang/String" a D s ∧ Found "java/lang/String" "value" "[B" fV s ∧ Found "java/lang/String" "coder" "B" fC s ∧ Ch b A s ∧ StaticIs s "java/lang/String" "COMPACT_STRINGS" "Z" (.int z) ∧ ¬ z = 0 ∧ 0 < A.slots.size ∧ A.slots.size ≤ 536870912 ∧ ∀ i, i < A.slots.size → ¬ 255 < cv A i
def E (a : Addr) (D : Cell) (fV fC : Field) (A : Cell) (r : Option Value) (s u : State) : Prop := Got a D fV fC A 0 A.slots.size r s u
/-- new String(chars), not empty, no char above 255: a Latin-1 String of their low bytes -/
theorem law (l : Launch) (a : Addr) (D : Cell) (fV fC : Field) (b : Addr) (A : Cell) (z : Int32) : Law l yN 2 1 3 52 yB 2 none site (P a D fV fC b A z) (E a D fV fC A) [⟨a, fC.slot⟩, ⟨a, fV.slot⟩] 1 A.slots.size := by
  refine Law.of_walk (plainFor_of_name (by decide +kernel)) (by decide +kernel) (by decide +kernel) (by decide) (fun _ _ h => by rw [h.1]; rfl) (fun _ U U' hal hh h => ⟨h.1, h.2.1.mv hal hh, h.2.2.1.al hal, h.2.2.2.1.al hal, h.2.2.2.2.1.mv hal hh, h.2.2.2.2.2.1.there hal hh, h.2.2.2.2.2.2⟩) (fun r U U' V V' h1 hal h2 h => Got.mv r U U' V V' h1 hal h2 h) ?_
  intro p e s m args below meth c s₁ X0 hexec hbytes hml hret hlk hnm hown hh0 W hP
  obtain ⟨rfl, hB, f1, f2, hA, s1, hz, l0, l2, hp⟩ := hP
  have c1 : Steps p.tables e below (s₁.setTop (entryFrame m #[.ref a, .ref b] 2)) (s₁.setTop (mkF m 0 #[.val (.ref a), .val (.ref b)] [])) := entry rfl
  have c2 : Steps p.tables e below (s₁.setTop (entryFrame m #[.ref a, .ref b] 2)) (s₁.setTop (mkF m 6 #[.val (.ref a), .val (.ref b)] [.null, .int (Int32.ofNat A.slots.size), .int 0, .ref b, .ref a])) := c1.trans (by
    refine XS.aloadN X0.here hexec rfl (hb hbytes d0) rfl rfl ?_
    refine XS.aloadN X0.here hexec rfl (hb hbytes d1) rfl rfl ?_
    refine iconstV X0.here hexec rfl 0 (hb hbytes d2) (by decide) ?_
    refine XS.aloadN X0.here hexec rfl (hb hbytes d3) rfl rfl ?_
    refine X0.alen hexec (hA.1.mv X0.warmed.alike hh0) rfl rfl (hb hbytes d4) ?_
    refine XS.aconstNull X0.here hexec rfl (hb hbytes d5) ?_
    exact Steps.refl _)
  obtain ⟨v3, T3, X3, E3, g3⟩ := X0.callN hexec (New4.law l a D fV fC b A z 0 A.slots.size) rfl hown (wks W (initW "java/lang/String" 27 New4.yN)) (W New4.tab (by simp only [site, List.mem_cons, List.mem_append, true_or, or_true])) (W := 0) (Nat.le_of_ble_eq_true rfl) (Nat.le_of_ble_eq_true rfl) (Nat.le_refl _) (by show 0 + A.slots.size ≤ A.slots.size; omega) (g := (mkF m 6 #[.val (.ref a), .val (.ref b)] [.null, .int (Int32.ofNat A.slots.size), .int (Int32.ofNat 0), .ref b, .ref a])) rfl (by rw [hml]; rfl) c2 (argsL := [.ref b, .int (Int32.ofNat 0), .int (Int32.ofNat A.slots.size), .null]) (rest := []) rfl rfl (by show 2 * 0 + 0 ≤ _; decide) (hb hbytes d6) (⟨rfl, hB.mv X0.warmed.alike hh0, f1.al X0.warmed.alike, f2.al X0.warmed.alike, hA.mv X0.warmed.alike hh0, s1.there X0.warmed.alike hh0, hz, l0, by omega, l2, fun i hi => by rw [Nat.zero_add]; exact hp i hi⟩)
  have e0 := Got.mv _ s₁ s _ _ hh0.symm (Vm.Alike.refl _) rfl E3
  obtain rfl := e0.1
  have c4 : Steps p.tables e below (s₁.setTop (entryFrame m #[.ref a, .ref b] 2)) (T3.setTop (mkF m 9 #[.val (.ref a), .val (.ref b)] [])) := g3
  exact ⟨T3, none, _, _, _, X3, by simp, rfl, by omega, (fun _ => rfl), e0, fun fs hl => c4.trans (X3.returnOut hexec hret (hb hbytes d9) hl)⟩
theorem pays {l : Launch} {R : Room} {p : Program} {e : Env} {below : List Frame} {s : State} {sargs : Array Value} {len W : Nat} (a : Addr) (D : Cell) (fV fC : Field) (b : Addr) (A : Cell) (z : Int32) (htab : tab.before sargs s = true) (hfr : 4 ≤ R.frames) (hlo : W + 65 ≤ R.locals) :
    Back l R p e below s sargs yN len W (fun A₁ a₁ => A₁.cells + 1 ≤ R.cells ∧ A₁.slots + A.slots.size ≤ R.slots ∧ P a D fV fC b A z a₁ A₁.U) (fun A₁ _ v₁ B₁ => E a D fV fC A v₁ A₁.U B₁.U ∧ B₁.locs = A₁.locs ++ [⟨a, fC.slot⟩, ⟨a, fV.slot⟩] ∧ B₁.cells = A₁.cells + 1 ∧ B₁.slots = A₁.slots + A.slots.size) :=
  (law l a D fV fC b A z).pays htab hfr (by omega)
end New1
/-- the byte, read back as charAt reads it, is the char -/
theorem lo8_mask {x : Int32} (h0 : ¬ x < 0) (h1 : ¬ 255 < x) : lo8 x &&& 255 = x := by
  have t : ∀ k : Fin 256, lo8 (Int32.ofNat k.val) &&& 255 = Int32.ofNat k.val := by decide +kernel
  rw [Int32.lt_iff_toInt_lt] at h0 h1
  have e0 : (0 : Int32).toInt = 0 := rfl
  have e1 : (255 : Int32).toInt = 255 := rfl
  obtain ⟨k, hk⟩ : ∃ k : Nat, x.toInt = k := ⟨x.toInt.toNat, by omega⟩
  have hx : x = Int32.ofNat k := Int32.toInt_inj.mp (by rw [hk, Int32.toInt_ofNat_small (by omega)])
  rw [hx]
  exact t ⟨k, by omega⟩
end StrChars
namespace StrChars.Road
open Jvm Sem ClassFile Op Lib Jvm.Stand Jvm.Free Jvm.Free.XT
open Jvm.Lib.Cold (StaticIs)
abbrev ST : String := "java/lang/String"
/-- every table word that New1's law asks, flat -/
abbrev words : List Jvm.Cond := [.code New1.yN New1.yB 2 none, .initialized ST, .methodLink ST 27 New4.yN, .instanceMethod New4.yN,
  .code New4.yN New4.yB 6 none, .fieldLink ST 38 ST "COMPACT_STRINGS" "Z", .laysFinal ST ST "value" "[B", .fieldLink ST 9 ST "value" "[B", .laysFinal ST ST "coder" "B", .fieldLink ST 15 ST "coder" "B",
  .methodLink ST 1 Lib.objectInit, .instanceMethod Lib.objectInit, .code Lib.objectInit ⟨#[0xb1]⟩ 1 none, .methodLink ST 177 Cmp3.yN, .static Cmp3.yN, .methodLink ST 47 CodL.yN, .static CodL.yN,
  .code Cmp3.yN Cmp3.yB 6 (some (.array .byte)), .initialized U16, .arrayClass .byte, .methodLink U16 115 Cmp5.yN, .static Cmp5.yN, .code Cmp5.yN Cmp5.yB 7 (some .int), .code CodL.yN CodL.yB 2 (some .byte)]
theorem tab_of {a : Array Value} {s : State} (h : ∀ w ∈ words, w.before a s = true) : New1.tab.before a s = true := by
  have h5 : Cmp5.tab.before a s = true := unparts (wk h (.code Cmp5.yN Cmp5.yB 7 (some .int))) (wks h (.initialized Cmp5.yN.cls :: Cmp5.site))
  have hc : CodL.tab.before a s = true := unparts (wk h (.code CodL.yN CodL.yB 2 (some .byte))) (wks h (.initialized CodL.yN.cls :: CodL.site))
  have q5 : ∀ w ∈ Cmp5.tab :: words, w.before a s = true := fun w hw => (List.mem_cons.mp hw).elim (fun e => e ▸ h5) (h w)
  have h3 : Cmp3.tab.before a s = true := unparts (wk q5 (.code Cmp3.yN Cmp3.yB 6 (some (.array .byte)))) (wks q5 (.initialized Cmp3.yN.cls :: Cmp3.site))
  have q3 : ∀ w ∈ Cmp3.tab :: CodL.tab :: words, w.before a s = true := fun w hw => (List.mem_cons.mp hw).elim (fun e => e ▸ h3) fun hw => (List.mem_cons.mp hw).elim (fun e => e ▸ hc) (h w)
  have h4 : New4.tab.before a s = true := unparts (wk q3 (.code New4.yN New4.yB 6 none)) (wks q3 (.initialized New4.yN.cls :: New4.site))
  have q4 : ∀ w ∈ New4.tab :: words, w.before a s = true := fun w hw => (List.mem_cons.mp hw).elim (fun e => e ▸ h4) (h w)
  exact unparts (wk q4 (.code New1.yN New1.yB 2 none)) (wks q4 (.initialized New1.yN.cls :: New1.site))
/-- the words ride from the start Z to the walk's own state -/
theorem moved {Z s : State} {a0 args : Array Value} (hZ : Z.Warmed39 s.vm) (hw : ∀ d ∈ words, d.before a0 Z = true) : ∀ d ∈ words, d.before args s = true := fun d hd => by
  have q := hw d hd
  have t : ∀ d ∈ words, d = .arrayClass .byte ∨ (d.onTables && d.keepsFace) = true := by decide +kernel
  rcases t d hd with rfl | t
  · exact RoadKit.mvA hZ q
  · exact RoadKit.mv hZ q t
/-- WHAT COMES BACK, over the tables of the start Z: h the heap at the call, h' behind it -/
def Q (Z : State) (x : Addr) (A : Cell) (h : Heap) (v : Option Value) (h' : Heap) (L : List Loc) : Prop := v = none ∧ (∀ y ∈ L, y.base = x) ∧ RoadKit.Keep h h' [x] ∧ h'.size = h.size + 1 ∧ RoadKit.Exa Z h' x ST ∧ RoadKit.Fld Z h' x ST "value" "[B" (.ref h.size) ∧ RoadKit.Fld Z h' x ST "coder" "B" (.int 0) ∧
  (∃ V : Cell, RoadKit.Arr Z h' h.size V .byte ∧ V.vm = .none ∧ Z.vm.findClass "[B" = some V.cls ∧ V.slots.size = A.slots.size ∧ ∀ j, j < A.slots.size → V.slots[j]? = some (.int (lo8 (cv A j)))) ∧
  ∀ (O n d : String) (w : Value), RoadKit.Fld Z h x O n d w → RoadKit.slotOf Z O n d ≠ RoadKit.slotOf Z ST "value" "[B" → RoadKit.slotOf Z O n d ≠ RoadKit.slotOf Z ST "coder" "B" → RoadKit.Fld Z h' x O n d w
/-- **new String(chars) AT A CALL, IN THE ROAD'S FORM**: for specialBack behind newO: x the fresh String, b the char[] with the cell A -/
theorem back {p : Program} {l : Launch} {e : Env} {R : Room} {s : State} {args : Array Value} {below : List Frame} {len W : Nat} {Z : State} {a0 : Array Value} {h : Heap} (hZ : Z.Warmed39 s.vm) (hw : ∀ d ∈ words, d.before a0 Z = true) {kI : Nat} (wi : (Jvm.Cond.instantiable ST kI).before a0 Z = true)
    {x b : Addr} {A : Cell} {z : Int32} {v0 c0 : Value} (E : RoadKit.Exa Z h x ST) (V : RoadKit.Fld Z h x ST "value" "[B" v0) (C : RoadKit.Fld Z h x ST "coder" "B" c0) (K : RoadKit.Arr Z h b A .char) (hty : Typed .char A) (S : RoadKit.Sta Z h ST "COMPACT_STRINGS" "Z" (.int z)) (hz : ¬ z = 0)
    (l0 : 0 < A.slots.size) (l2 : A.slots.size ≤ 536870912) (hp : ∀ i, i < A.slots.size → ¬ 255 < cv A i) (hfr : 4 ≤ R.frames) (hlo : W + 65 ≤ R.locals) :
    Back l R p e below s args New1.yN len W (fun P a => a = #[.ref x, .ref b] ∧ P.U.heap = h ∧ P.cells + 1 ≤ R.cells ∧ P.slots + A.slots.size ≤ R.slots)
      (fun P _ v B => ∃ L, Q Z x A h v B.U.heap L ∧ B.locs = P.locs ++ L ∧ B.cells = P.cells + 1 ∧ B.slots = P.slots + A.slots.size) := by
  intro m meth c P g ig mk a X hg hsize hdg hW hn hp'
  obtain ⟨rfl, rfl, r1, r2⟩ := hp'
  have al : Z.vm.Alike P.U.vm := hZ.alike.trans X.warmed.alike
  obtain ⟨D, cfV, kV, iV, fV, hD, gV, stV, knV, obV, asV, slV⟩ := id V
  obtain ⟨D', cfC, kC, iC, fC, hD', gC, stC, -, -, asC, slC⟩ := id C
  cases hD.symm.trans hD'
  obtain ⟨D2, kD, e1, e2, e3, e4, e5⟩ := id E
  cases hD.symm.trans e1
  obtain ⟨c2, k2, i1, i2, i3, -⟩ := Cond.instantiable_spec wi
  cases e2.symm.trans i1
  cases e3.symm.trans i2
  obtain ⟨kU, u1, u2⟩ := al.2.2 _ _ e3
  have hB : Blank ST x D P.U := ⟨hD, ⟨knV, fun q hq => by rw [hq] at obV; cases obV⟩, by rw [al.findClass]; exact e2, kU, u1, by rw [u2]; exact i3, by rw [u2]; exact e5 i3⟩
  have F1 : Found ST "value" "[B" fV P.U := ⟨SBG.found_only al ⟨cfV, kV, iV, gV⟩, stV⟩
  have F2 : Found ST "coder" "B" fC P.U := ⟨SBG.found_only al ⟨cfC, kC, iC, gC⟩, stC⟩
  have hA : Ch b A P.U := ⟨⟨K.1, State.isArrayOf_alike al K.2.1, K.2.2, by omega⟩, hty⟩
  have hS : StaticIs P.U ST "COMPACT_STRINGS" "Z" (.int z) := by
    obtain ⟨cfS, iS, kS, fS, st, cS, t1, t2, t3, t4, t5, t6, t7⟩ := S
    exact StaticIs.there (s := { Z with heap := P.U.heap }) ⟨cfS, iS, kS, fS, st, cS, t1, t2, t3, t4, t5, (fun q => by rw [q] at t6; cases t6), t7⟩ al rfl
  obtain ⟨v, B, X', ⟨⟨hv, E', V', q1, q2, q3, q4, q5, q6, q7, q8, q9, q10, q11⟩, hl, hc, hs⟩, st⟩ := New1.pays x D fV fC b A z (tab_of (moved hZ hw)) hfr hlo m meth c P g ig mk _ X hg hsize hdg hW hn ⟨r1, r2, rfl, hB, F1, F2, hA, hS, hz, l0, l2, hp⟩
  have al' : Z.vm.Alike B.U.vm := hZ.alike.trans X'.warmed.alike
  have hsz : E'.slots.size = D.slots.size := by
    obtain ⟨-, -, -, kB, w1, w2, w3⟩ := q1
    obtain ⟨kB', y1, y2⟩ := al'.2.2 _ _ e3
    rw [q2.2.1] at w1
    cases w1.symm.trans y1
    rw [w3, e5 i3, y2]
  refine ⟨v, B, X', ⟨_, ⟨hv, ?_, ⟨by omega, fun y cy hy hn' => q10 y cy (by simpa using hn') hy, fun y cy hy => ?_⟩, q11, ⟨E', _, q1.1, by rw [q2.2.1]; exact e2, by rw [q2.2.1]; exact e3, by rw [q2.1]; exact obV, fun _ => by rw [hsz]; exact e5 i3⟩,
    ⟨E', cfV, kV, iV, fV, q1.1, gV, stV, by rw [q2.1]; exact knV, by rw [q2.1]; exact obV, by rw [q2.2.1]; exact asV, q3⟩, ⟨E', cfC, kC, iC, fC, q1.1, gC, stC, by rw [q2.1]; exact knV, by rw [q2.1]; exact obV, by rw [q2.2.1]; exact asC, q4⟩,
    ⟨V', ⟨q5.1, State.isArrayOf_alike al'.symm q5.2.1, q5.2.2.1⟩, q6, by rw [← al'.findClass]; exact q7, q8, fun j hj => by have := q9 j hj; rwa [Nat.zero_add] at this⟩, fun O n d w F n1 n2 => ?_⟩, hl, hc, hs⟩, st⟩
  · intro y hy
    simp only [List.mem_cons, List.not_mem_nil, or_false] at hy
    rcases hy with rfl | rfl <;> rfl
  · by_cases q : y = x
    · subst q
      cases hD.symm.trans hy
      exact ⟨E', q1.1, q2.2.1, q2.1, hsz⟩
    · exact ⟨cy, q10 y cy q hy, rfl, rfl, rfl⟩
  · obtain ⟨D3, cf, k, i, f, g1, g2, g3, g4, g5, g6, g7⟩ := F
    cases hD.symm.trans g1
    simp only [RoadKit.slotOf, g2, gV, gC, Option.map_some, Option.getD_some] at n1 n2
    exact ⟨E', cf, k, i, f, q1.1, g2, g3, by rw [q2.1]; exact g4, by rw [q2.1]; exact g5, by rw [q2.2.1]; exact g6, by rw [q2.2.2 f.slot (by simp [n1, n2])]; exact g7⟩
end StrChars.Road
namespace StrChars.Road
open Jvm Sem ClassFile Op Lib Jvm.Stand Jvm.Free Jvm.Free.XT
/-- WHAT COMES BACK, the byte[] as a list of values -/
def QA (Z : State) (x : Addr) (zn : Int32) (cs : List Int32) (h : Heap) (v : Option Value) (h' : Heap) (L : List Loc) : Prop := v = none ∧ (∀ y ∈ L, y.base = x) ∧ RoadKit.Keep h h' [x] ∧ h'.size = h.size + 1 ∧ RoadKit.Exa Z h' x ST ∧ RoadKit.Fld Z h' x ST "value" "[B" (.ref h.size) ∧ RoadKit.Fld Z h' x ST "coder" "B" (.int 0) ∧
  (∃ kb, Z.vm.findClass "[B" = some kb ∧ RoadKit.Arv Z h' h.size kb .byte zn (cs.map fun c => .int (lo8 c)) (.int 0)) ∧
  ∀ (O n d : String) (w : Value), RoadKit.Fld Z h x O n d w → RoadKit.slotOf Z O n d ≠ RoadKit.slotOf Z ST "value" "[B" → RoadKit.slotOf Z O n d ≠ RoadKit.slotOf Z ST "coder" "B" → RoadKit.Fld Z h' x O n d w
/-- **new String(chars) AT A CALL, THE ARRAYS AS LISTS**: the char[] at b holds cs, not empty, no char above 255 -/
theorem backArv {p : Program} {l : Launch} {e : Env} {R : Room} {s : State} {args : Array Value} {below : List Frame} {len W : Nat} {Z : State} {a0 : Array Value} {h : Heap} (hZ : Z.Warmed39 s.vm) (hw : ∀ d ∈ words, d.before a0 Z = true) {kI : Nat} (wi : (Jvm.Cond.instantiable ST kI).before a0 Z = true)
    {x b : Addr} {k : ClassId} {zn z : Int32} {cs : List Int32} {dv v0 c0 : Value} (E : RoadKit.Exa Z h x ST) (V : RoadKit.Fld Z h x ST "value" "[B" v0) (C : RoadKit.Fld Z h x ST "coder" "B" c0) (K : RoadKit.Arv Z h b k .char zn (cs.map Value.int) dv) (S : RoadKit.Sta Z h ST "COMPACT_STRINGS" "Z" (.int z)) (hz : ¬ z = 0)
    (hlen : zn.toNatClampNeg = cs.length) (h0 : 0 < cs.length) (hbig : cs.length ≤ 536870912) (hall : ∀ c ∈ cs, ¬ 255 < c) (hfr : 4 ≤ R.frames) (hlo : W + 65 ≤ R.locals) :
    Back l R p e below s args New1.yN len W (fun P a => a = #[.ref x, .ref b] ∧ P.U.heap = h ∧ P.cells + 1 ≤ R.cells ∧ P.slots + cs.length ≤ R.slots)
      (fun P _ v B => ∃ L, QA Z x zn cs h v B.U.heap L ∧ B.locs = P.locs ++ L ∧ B.cells = P.cells + 1 ∧ B.slots = P.slots + cs.length) := by
  obtain ⟨A, K1, K2, K3, K4, K5, K6⟩ := K
  have e : A.slots.size = cs.length := K3.trans hlen
  have hat : ∀ (i : Nat) (hi : i < cs.length), A.slots[i]? = some (.int cs[i]) := fun i hi => by rw [K5 i (by omega)]; simp [List.getD_eq_getElem?_getD, hi]
  have hcv : ∀ (i : Nat) (hi : i < cs.length), cv A i = cs[i] := fun i hi => by unfold cv; rw [hat i hi]
  have hty : Typed .char A := fun i v hv => by
    have hi : i < A.slots.size := (Array.getElem?_eq_some_iff.mp hv).1
    have q := K5 i hi
    rw [hv] at q
    rw [Option.some.inj q]
    exact K6 i hi
  refine Back.mono (back hZ hw wi E V C K1 hty S hz (by omega) (by omega) (fun i hi => by rw [hcv i (by omega)]; exact hall _ (List.getElem_mem _)) hfr hlo) (fun P a hp => ⟨hp.1, hp.2.1, hp.2.2.1, by rw [e]; exact hp.2.2.2⟩) (fun P a v B hp hq => ?_)
  obtain ⟨L, ⟨q1, q2, q3, q4, q5, q6, q7, ⟨V', v1, v2, v3, v4, v5⟩, q9⟩, hl, hc, hs⟩ := hq
  refine ⟨L, ⟨q1, q2, q3, q4, q5, q6, q7, ⟨V'.cls, v3, V', v1, rfl, by rw [v4, e, hlen], K4, fun i hi => ?_, fun i hi => ?_⟩, q9⟩, hl, hc, by rw [hs, e]⟩
  · have hi' : i < cs.length := by omega
    rw [v5 i (by omega), hcv i hi']; simp [List.getD_eq_getElem?_getD, hi']
  · have hi' : i < cs.length := by omega
    simp only [List.getD_eq_getElem?_getD, List.getElem?_map, List.getElem?_eq_getElem hi', Option.map_some, Option.getD_some]
    exact fits_lo8 _
end StrChars.Road
namespace StrChars.Road
open Jvm Sem ClassFile Op Lib Jvm.Stand Jvm.Free Jvm.Free.XT
/-- WHAT COMES BACK, in the writer's own shape -/
def QV (Z : State) (x : Addr) (N : Int32) (bs : List Int32) (h : Heap) (n0 : Nat) (v : Option Value) (h' : Heap) (L : List Loc) : Prop := v = none ∧ RoadKit.Fr n0 L ∧ RoadKit.Keep h h' [x] ∧ RoadKit.Exa Z h' x ST ∧ RoadKit.Fld Z h' x ST "coder" "B" (.int 0) ∧
  ∃ (t : Addr) (kb : ClassId), n0 ≤ t ∧ h.size ≤ t ∧ ¬ t = x ∧ RoadKit.Fld Z h' x ST "value" "[B" (.ref t) ∧ RoadKit.Arv Z h' t kb .byte N (bs.map Value.int) (.int 0)
/-- **new String(chars) AT A CALL, FOR THE WRITER**: a char[] of n known ints, each 0 to 255 -/
theorem backV {p : Program} {l : Launch} {e : Env} {R : Room} {s : State} {args : Array Value} {below : List Frame} {len W : Nat} {Z : State} {a0 : Array Value} {h : Heap} (hZ : Z.Warmed39 s.vm) (hw : ∀ d ∈ words, d.before a0 Z = true) {kI : Nat} (wi : (Jvm.Cond.instantiable ST kI).before a0 Z = true)
    {x b : Addr} {kC : ClassId} {cs bs : List Int32} {d v0 c0 : Value} {z N : Int32} {n n0 : Nat} (hx0 : n0 ≤ x) (hh0 : n0 ≤ h.size) (E : RoadKit.Exa Z h x ST) (V : RoadKit.Fld Z h x ST "value" "[B" v0) (C : RoadKit.Fld Z h x ST "coder" "B" c0) (K : RoadKit.Arv Z h b kC .char N (cs.map Value.int) d) (S : RoadKit.Sta Z h ST "COMPACT_STRINGS" "Z" (.int z)) (hz : ¬ z = 0)
    (hn : cs.length = n) (hN : N = Int32.ofNat n) (l0 : 0 < n) (l2 : n ≤ 4000) (hp : ∀ c ∈ cs, ¬ c < 0 ∧ ¬ (255 : Int32) < c) (hb : bs = cs.map (fun c => c.toInt8.toInt32)) (hfr : 4 ≤ R.frames) (hlo : W + 65 ≤ R.locals) :
    Back l R p e below s args (⟨"java/lang/String", "<init>", "([C)V"⟩ : MethodName) len W (fun P a => a = #[.ref x, .ref b] ∧ P.U.heap = h ∧ P.cells + 1 ≤ R.cells ∧ P.slots + n ≤ R.slots)
      (fun P _ v B => ∃ L, QV Z x N bs h n0 v B.U.heap L ∧ B.locs = P.locs ++ L ∧ B.cells = P.cells + 1 ∧ B.slots = P.slots + n) := by
  subst hn hN hb
  refine Back.mono (backArv hZ hw wi E V C K S hz (n32 (by omega)) l0 (by omega) (fun c hc => (hp c hc).2) hfr hlo) (fun P a hp => hp) (fun P a v B hp hq => ?_)
  obtain ⟨L, ⟨q1, q2, q3, q4, q5, q6, q7, ⟨kb, v1, v2⟩, q9⟩, hl, hc, hs⟩ := hq
  exact ⟨L, ⟨q1, fun y hy => by rw [q2 y hy]; exact hx0, q3, q5, q7, h.size, kb, hh0, Nat.le_refl _, Nat.ne_of_gt E.lt, q6, by rw [List.map_map]; exact v2⟩, hl, hc, hs⟩
end StrChars.Road
namespace StrChars
open Jvm Sem ClassFile Op Lib Jvm.Stand Jvm.Free.XT Jvm.Free.ALB Jvm.Free.JM Jvm.Free
open Jvm.Lib.Cold (StaticIs)
def hi8 (x : Int32) : Int32 := lo8 (x >>> ((8 : Int32) &&& 31))
/-- what StringUTF16.getChar makes of two bytes -/
def pairCh (u v : Int32) : Int32 := (((u &&& 255) <<< ((0 : Int32) &&& 31)) ||| ((v &&& 255) <<< ((8 : Int32) &&& 31))).toUInt32.toUInt16.toUInt32.toInt32
theorem shr0 (c : Int32) : c >>> ((0 : Int32) &&& 31) = c := by
  have e : ((0 : Int32) &&& 31) = 0 := by decide
  rw [e]
  apply Int32.toBitVec_inj.mp
  rw [Int32.toBitVec_shiftRight]
  have e1 : ((0 : Int32).toBitVec.smod 32) = 0#32 := by decide
  rw [e1, BitVec.sshiftRight_eq']
  exact BitVec.sshiftRight_zero
theorem lo8_and (x : Int32) : (lo8 x &&& 255).toBitVec.toNat = x.toBitVec.toNat % 256 := by
  have h : (lo8 x).toBitVec = (x.toBitVec.signExtend 8).signExtend 32 := by rw [lo8, Int8.toBitVec_toInt32, Int32.toBitVec_toInt8]
  rw [Int32.toBitVec_and, BitVec.toNat_and, h]
  have e : ((x.toBitVec.signExtend 8).signExtend 32).toNat % 256 = x.toBitVec.toNat % 256 := by
    rw [BitVec.toNat_signExtend]
    have hlt := x.toBitVec.isLt
    simp only [BitVec.toNat_setWidth, BitVec.toNat_signExtend]
    split <;> split <;> omega
  rw [← e]
  exact Nat.and_two_pow_sub_one_eq_mod _ 8
theorem pair_says {c : Int32} (h0 : ¬ c < 0) (h1 : ¬ 65535 < c) : pairCh (lo8 c) (hi8 c) = c := by
  rw [Int32.lt_iff_toInt_lt] at h0 h1
  have e0 : (0 : Int32).toInt = 0 := rfl
  have e1 : (65535 : Int32).toInt = 65535 := rfl
  have hc : c.toInt = c.toBitVec.toNat := by
    have := c.toBitVec.isLt
    have e : c.toInt = c.toBitVec.toInt := rfl
    rw [e] at h0 h1
    rw [e]
    rw [BitVec.toInt_eq_toNat_cond] at h0 h1 ⊢
    split at h0 <;> split <;> omega
  have hn : c.toBitVec.toNat < 65536 := by omega
  have a1 := lo8_and c
  have a2 : (hi8 c &&& 255).toBitVec.toNat = c.toBitVec.toNat / 256 := by
    rw [hi8, lo8_and]
    have e : ((8 : Int32) &&& 31) = 8 := by decide
    rw [e, Int32.toBitVec_shiftRight]
    have e2 : ((8 : Int32).toBitVec.smod 32) = 8#32 := by decide
    rw [e2, BitVec.sshiftRight_eq', BitVec.toNat_sshiftRight_of_msb_false (by rw [BitVec.msb_eq_false_iff_two_mul_lt]; omega)]
    show c.toBitVec.toNat >>> 8 % 256 = _
    rw [Nat.shiftRight_eq_div_pow]
    omega
  unfold pairCh
  apply Int32.toBitVec_inj.mp
  apply BitVec.eq_of_toNat_eq
  have f0 : ((0 : Int32) &&& 31) = 0 := by decide
  have f8 : ((8 : Int32) &&& 31) = 8 := by decide
  rw [f0, f8]
  have g : (((lo8 c &&& 255) <<< (0 : Int32)) ||| ((hi8 c &&& 255) <<< (8 : Int32))).toBitVec.toNat = c.toBitVec.toNat := by
    rw [Int32.toBitVec_or, Int32.toBitVec_shiftLeft, Int32.toBitVec_shiftLeft]
    have s0 : ((0 : Int32).toBitVec.smod 32) = 0#32 := by decide
    have s8 : ((8 : Int32).toBitVec.smod 32) = 8#32 := by decide
    rw [s0, s8, BitVec.toNat_or]
    simp only [BitVec.shiftLeft_eq', BitVec.toNat_shiftLeft, a1, a2]
    show (c.toBitVec.toNat % 256) <<< 0 % 2 ^ 32 ||| (c.toBitVec.toNat / 256) <<< 8 % 2 ^ 32 = _
    rw [Nat.shiftLeft_zero, Nat.mod_eq_of_lt (show c.toBitVec.toNat % 256 < 2 ^ 32 by omega), Nat.mod_eq_of_lt (show (c.toBitVec.toNat / 256) <<< 8 < 2 ^ 32 by rw [Nat.shiftLeft_eq]; omega), Nat.or_comm, ← Nat.shiftLeft_add_eq_or_of_lt (by omega), Nat.shiftLeft_eq]
    omega
  show BitVec.toNat (((((lo8 c &&& 255) <<< (0 : Int32)) ||| ((hi8 c &&& 255) <<< (8 : Int32))).toBitVec.setWidth 16).setWidth 32) = _
  rw [BitVec.toNat_setWidth, BitVec.toNat_setWidth, g]
  omega
end StrChars
namespace StrChars
open Jvm Sem ClassFile Op Lib Jvm.Stand Jvm.Free.XT Jvm.Free.ALB Jvm.Free.JM Jvm.Free
open Jvm.Lib.Cold (StaticIs)
theorem shr1 {n : Nat} (h : 2 * n < 2 ^ 31) : Int32.ofNat (2 * n) >>> ((1 : Int32) &&& 31) = Int32.ofNat n := by
  have e : ((1 : Int32) &&& 31) = 1 := by decide
  rw [e]
  apply Int32.toBitVec_inj.mp
  rw [Int32.toBitVec_shiftRight]
  have e1 : ((1 : Int32).toBitVec.smod 32) = 1#32 := by decide
  have hm : (BitVec.ofNat 32 (2 * n)).toNat = 2 * n := by rw [BitVec.toNat_ofNat, Nat.mod_eq_of_lt (by omega)]
  rw [e1, BitVec.sshiftRight_eq']
  apply BitVec.eq_of_toNat_eq
  show ((BitVec.ofNat 32 (2 * n)).sshiftRight 1).toNat = (BitVec.ofNat 32 n).toNat
  rw [BitVec.toNat_sshiftRight_of_msb_false (by rw [BitVec.msb_eq_false_iff_two_mul_lt, hm]; omega), hm, BitVec.toNat_ofNat, Nat.shiftRight_eq_div_pow]
  omega
/-- charAt's cast of a byte read back -/
def chr8 (u : Int32) : Int32 := (u &&& 255).toUInt32.toUInt16.toUInt32.toInt32
theorem chr8_lo8 {c : Int32} (h0 : ¬ c < 0) (h1 : ¬ 255 < c) : chr8 (lo8 c) = c := by
  have t : ∀ k : Fin 256, (Int32.ofNat k.val).toUInt32.toUInt16.toUInt32.toInt32 = Int32.ofNat k.val := by decide +kernel
  unfold chr8
  rw [lo8_mask h0 h1]
  rw [Int32.lt_iff_toInt_lt] at h0 h1
  have e0 : (0 : Int32).toInt = 0 := rfl
  have e1 : (255 : Int32).toInt = 255 := rfl
  obtain ⟨k, hk⟩ : ∃ k : Nat, c.toInt = k := ⟨c.toInt.toNat, by omega⟩
  have hx : c = Int32.ofNat k := Int32.toInt_inj.mp (by rw [hk, Int32.toInt_ofNat_small (by omega)])
  rw [hx]
  exact t ⟨k, by omega⟩
theorem narrow_ch {c : Int32} (h0 : ¬ c < 0) (h1 : ¬ 65535 < c) : narrow .char (.int c) = .int c := by
  have q : narrow .char (.int (pairCh (lo8 c) (hi8 c))) = .int (pairCh (lo8 c) (hi8 c)) := narrow_c _
  rwa [pair_says h0 h1] at q
/-- the array's cell V codes the n chars f 0 .. f (n - 1) by the coder cd, as the JDK does: coder 1 just where some char is above 255 -/
def Cod (cd : Int32) (n : Nat) (f : Nat → Int32) (V : Cell) : Prop := (cd = 0 ∧ V.slots.size = n ∧ ∀ j, j < n → V.slots[j]? = some (.int (lo8 (f j))) ∧ ¬ 255 < f j) ∨ (cd = 1 ∧ V.slots.size = 2 * n ∧ (∀ j, j < n → V.slots[2 * j]? = some (.int (lo8 (f j))) ∧ V.slots[2 * j + 1]? = some (.int (hi8 (f j)))) ∧ ∃ j, j < n ∧ 255 < f j)
theorem Cod.cd {cd : Int32} {n : Nat} {f : Nat → Int32} {V : Cell} (h : Cod cd n f V) : cd = 0 ∨ cd = 1 := h.imp (fun q => q.1) fun q => q.1
theorem Cod.len {cd : Int32} {n : Nat} {f : Nat → Int32} {V : Cell} (h : Cod cd n f V) (hs : V.slots.size < 2 ^ 31) : Int32.ofNat V.slots.size >>> (cd &&& 31) = Int32.ofNat n := by
  rcases h with ⟨rfl, h, -⟩ | ⟨rfl, h, -⟩
  · rw [shr0, h]
  · rw [h, shr1 (by omega)]
/-- **x is a String of the n chars f 0 .. f (n - 1)**, Latin-1 or UTF-16; its array at t has the cell V -/
def Txt (x t : Addr) (V : Cell) (cd : Int32) (n : Nat) (f : Nat → Int32) (U : State) : Prop := Exact "java/lang/String" x U ∧ Has x "java/lang/String" "value" "[B" (.ref t) U ∧ Has x "java/lang/String" "coder" "B" (.int cd) U ∧ XT.Arr .byte t V U ∧ Cod cd n f V ∧ ∀ j, j < n → ¬ f j < 0 ∧ ¬ 65535 < f j
theorem Txt.mv {x t : Addr} {V : Cell} {cd : Int32} {n : Nat} {f : Nat → Int32} {U U' : State} (h : Txt x t V cd n f U) (hal : U.vm.Alike U'.vm) (hh : U'.heap = U.heap) : Txt x t V cd n f U' := ⟨h.1.mv hal hh, h.2.1.mv hal hh, h.2.2.1.mv hal hh, h.2.2.2.1.mv hal hh, h.2.2.2.2⟩
namespace Cdr
def yN : MethodName := ⟨"java/lang/String", "coder", "()B"⟩
abbrev yB : ByteArray := jdk_42_method_152_code
theorem d0 : decode yB 0 = .ok (.getstatic 38, 3) := by decide +kernel
theorem d3 : decode yB 3 = .ok (.ifCond (.eq) 10, 3) := by decide +kernel
theorem d6 : decode yB 6 = .ok (.aload_n 0, 1) := by decide +kernel
theorem d7 : decode yB 7 = .ok (.getfield 15, 3) := by decide +kernel
theorem d10 : decode yB 10 = .ok (.goto 4, 3) := by decide +kernel
theorem d14 : decode yB 14 = .ok (.ireturn, 1) := by decide +kernel
def site : List Cond := [.fieldLink "java/lang/String" 38 "java/lang/String" "COMPACT_STRINGS" "Z", .fieldLink "java/lang/String" 15 "java/lang/String" "coder" "B"]
def tab : Cond := tabOf yN yB 1 (some .byte) site
def P (x : Addr) (cd z : Int32) (args : Array Value) (s : State) : Prop := args = #[.ref x] ∧ Has x "java/lang/String" "coder" "B" (.int cd) s ∧ (cd = 0 ∨ cd = 1) ∧ StaticIs s "java/lang/String" "COMPACT_STRINGS" "Z" (.int z) ∧ ¬ z = 0
def E (cd : Int32) (r : Option Value) (s u : State) : Prop := XT.PureE (some (.int cd)) r s u
theorem law (l : Launch) (x : Addr) (cd z : Int32) : Law l yN 1 0 0 0 yB 1 (some .byte) site (P x cd z) (E cd) [] 0 0 := by
  refine Law.of_walk (plainFor_of_name (by decide +kernel)) (by decide +kernel) (by decide +kernel) (by decide) (fun _ _ h => by rw [h.1]; rfl) (fun _ U U' hal hh h => ⟨h.1, h.2.1.mv hal hh, h.2.2.1, h.2.2.2.1.there hal hh, h.2.2.2.2⟩) (fun r U U' V V' h1 hal h2 h => XT.PureE.mv r U U' V V' h1 hal h2 h) ?_
  intro p e s m args below meth c s₁ X0 hexec hbytes hml hret hlk hnm hown hh0 W hP
  obtain ⟨rfl, hx, hc, s1, hz⟩ := hP
  have c1 : Steps p.tables e below (s₁.setTop (entryFrame m #[.ref x] 1)) (s₁.setTop (mkF m 0 #[.val (.ref x)] [])) := entry rfl
  obtain ⟨T2, X2, q2, st2⟩ := X0.sget hexec hown (wk W (.fieldLink "java/lang/String" 38 "java/lang/String" "COMPACT_STRINGS" "Z")) s1 (fun _ _ h => by rw [hh0]; exact h) (g := (mkF m 0 #[.val (.ref x)] [])) rfl (hb hbytes d0)
  have hh2 := q2.trans hh0
  have c3 : Steps p.tables e below (s₁.setTop (entryFrame m #[.ref x] 1)) (T2.setTop (mkF m 7 #[.val (.ref x)] [.ref x])) := (c1.trans (st2 _ (Steps.refl _))).trans (by
    refine XS.ifNo X2.here hexec rfl (hb hbytes d3) rfl (i0_eq_f hz) ?_
    refine XS.aloadN X2.here hexec rfl (hb hbytes d6) rfl rfl ?_
    exact Steps.refl _)
  obtain ⟨T4, X4, q4, st4⟩ := X2.hget hexec hown (wk W (.fieldLink "java/lang/String" 15 "java/lang/String" "coder" "B")) (hx.mv X2.warmed.alike hh2) (g := (mkF m 7 #[.val (.ref x)] [.ref x])) rfl (rest := []) rfl (hb hbytes d7)
  have c5 : Steps p.tables e below (s₁.setTop (entryFrame m #[.ref x] 1)) (T4.setTop (mkF m 14 #[.val (.ref x)] [.int cd])) := (c3.trans (st4 _ (Steps.refl _))).trans (by
    refine XS.goto X4.here hexec rfl (pc0 := 10) rfl (hb hbytes d10) (by decide) rfl ?_
    exact Steps.refl _)
  exact ⟨T4, some (.int cd), _, _, _, X4, rfl, rfl, rfl, (fun h => by cases h), ⟨rfl, q4.trans hh2⟩, fun fs hl => c5.trans (X4.ireturnOut hexec hret (by rcases hc with rfl | rfl <;> rfl) (Or.inr (Or.inr (Or.inl rfl))) (hb hbytes d14) hl)⟩
end Cdr
namespace Len
def yN : MethodName := ⟨"java/lang/String", "length", "()I"⟩
abbrev yB : ByteArray := jdk_42_method_54_code
theorem d0 : decode yB 0 = .ok (.aload_n 0, 1) := by decide +kernel
theorem d1 : decode yB 1 = .ok (.getfield 9, 3) := by decide +kernel
theorem d4 : decode yB 4 = .ok (.arraylength, 1) := by decide +kernel
theorem d5 : decode yB 5 = .ok (.aload_n 0, 1) := by decide +kernel
theorem d6 : decode yB 6 = .ok (.invokevirtual 335, 3) := by decide +kernel
theorem d9 : decode yB 9 = .ok (.ishr, 1) := by decide +kernel
theorem d10 : decode yB 10 = .ok (.ireturn, 1) := by decide +kernel
def site : List Cond := [.fieldLink "java/lang/String" 9 "java/lang/String" "value" "[B", Cdr.tab] ++ virtW "java/lang/String" 335 "java/lang/String" Cdr.yN Cdr.yN
def tab : Cond := tabOf yN yB 1 (some .int) site
def P (x t : Addr) (V : Cell) (cd : Int32) (n : Nat) (f : Nat → Int32) (z : Int32) (args : Array Value) (s : State) : Prop := args = #[.ref x] ∧ Txt x t V cd n f s ∧ StaticIs s "java/lang/String" "COMPACT_STRINGS" "Z" (.int z) ∧ ¬ z = 0
def E (n : Nat) (r : Option Value) (s u : State) : Prop := XT.PureE (some (.int (Int32.ofNat n))) r s u
/-- length() of a String of n chars, in either coding -/
theorem law (l : Launch) (x t : Addr) (V : Cell) (cd : Int32) (n : Nat) (f : Nat → Int32) (z : Int32) : Law l yN 1 0 1 13 yB 1 (some .int) site (P x t V cd n f z) (E n) [] 0 0 := by
  refine Law.of_walk (plainFor_of_name (by decide +kernel)) (by decide +kernel) (by decide +kernel) (by decide) (fun _ _ h => by rw [h.1]; rfl) (fun _ U U' hal hh h => ⟨h.1, h.2.1.mv hal hh, h.2.2.1.there hal hh, h.2.2.2⟩) (fun r U U' V V' h1 hal h2 h => XT.PureE.mv r U U' V V' h1 hal h2 h) ?_
  intro p e s m args below meth c s₁ X0 hexec hbytes hml hret hlk hnm hown hh0 W hP
  obtain ⟨rfl, hx, s1, hz⟩ := hP
  have v31 := hx.2.2.2.1.2.2.2
  have c1 : Steps p.tables e below (s₁.setTop (entryFrame m #[.ref x] 1)) (s₁.setTop (mkF m 1 #[.val (.ref x)] [.ref x])) := Steps.trans (entry rfl) (by
    show Steps p.tables e below (s₁.setTop (mkF m 0 #[.val (.ref x)] [])) _
    refine XS.aloadN X0.here hexec rfl (hb hbytes d0) rfl rfl ?_
    exact Steps.refl _)
  obtain ⟨T2, X2, q2, st2⟩ := X0.hget hexec hown (wk W (.fieldLink "java/lang/String" 9 "java/lang/String" "value" "[B")) (hx.mv X0.warmed.alike hh0).2.1 (g := (mkF m 1 #[.val (.ref x)] [.ref x])) rfl (rest := []) rfl (hb hbytes d1)
  have hh2 := q2.trans hh0
  have hx2 := hx.mv X2.warmed.alike hh2
  have c3 : Steps p.tables e below (s₁.setTop (entryFrame m #[.ref x] 1)) (T2.setTop (mkF m 6 #[.val (.ref x)] [.ref x, .int (Int32.ofNat V.slots.size)])) := (c1.trans (st2 _ (Steps.refl _))).trans (by
    refine X2.alen hexec hx2.2.2.2.1 rfl rfl (hb hbytes d4) ?_
    refine XS.aloadN X2.here hexec rfl (hb hbytes d5) rfl rfl ?_
    exact Steps.refl _)
  obtain ⟨v4, T4, X4, E4, g4⟩ := X2.callV hexec (Cdr.law l x cd z) hown (wks W (virtW "java/lang/String" 335 "java/lang/String" Cdr.yN Cdr.yN)) rfl (by decide) (wk W Cdr.tab) (W := 1) (Nat.le_of_ble_eq_true rfl) (Nat.le_of_ble_eq_true rfl) (Nat.le_refl _) (Nat.le_refl _) (hx2.1.fc X2.warmed.alike) hx2.1.is (g := (mkF m 6 #[.val (.ref x)] [.ref x, .int (Int32.ofNat V.slots.size)])) rfl (by rw [hml]; rfl) c3 (argsL := []) (rest := [.int (Int32.ofNat V.slots.size)]) rfl rfl (by show 2 * 0 + (1 + 0) ≤ _; decide) (hb hbytes d6) (⟨rfl, hx2.2.2.1, hx.2.2.2.2.1.cd, s1.there X2.warmed.alike hh2, hz⟩)
  obtain ⟨rfl, q4⟩ := E4
  have c5 : Steps p.tables e below (s₁.setTop (entryFrame m #[.ref x] 1)) (T4.setTop (mkF m 10 #[.val (.ref x)] [.int (Int32.ofNat V.slots.size >>> (cd &&& 31))])) := Steps.trans g4 (by
    refine ishr X4.here hexec rfl (hb hbytes d9) rfl ?_
    exact Steps.refl _)
  rw [hx.2.2.2.2.1.len v31] at c5
  exact ⟨T4, some (.int (Int32.ofNat n)), _, _, _, X4, rfl, rfl, rfl, (fun h => by cases h), ⟨rfl, q4.trans hh2⟩, fun fs hl => c5.trans (X4.ireturnOut hexec hret rfl (Or.inl rfl) (hb hbytes d10) hl)⟩
theorem pays {l : Launch} {R : Room} {p : Program} {e : Env} {below : List Frame} {s : State} {sargs : Array Value} {len W : Nat} (x t : Addr) (V : Cell) (cd : Int32) (n : Nat) (f : Nat → Int32) (z : Int32) (htab : tab.before sargs s = true) (hfr : 2 ≤ R.frames) (hlo : W + 25 ≤ R.locals) :
    Back l R p e below s sargs yN len W (fun A₁ a₁ => A₁.cells + 0 ≤ R.cells ∧ A₁.slots + 0 ≤ R.slots ∧ P x t V cd n f z a₁ A₁.U) (fun A₁ _ v₁ B₁ => E n v₁ A₁.U B₁.U ∧ B₁.locs = A₁.locs ++ [] ∧ B₁.cells = A₁.cells + 0 ∧ B₁.slots = A₁.slots + 0) :=
  (law l x t V cd n f z).pays htab hfr (by omega)
end Len
namespace IsL
def yN : MethodName := ⟨"java/lang/String", "isLatin1", "()Z"⟩
abbrev yB : ByteArray := jdk_42_method_154_code
theorem d0 : decode yB 0 = .ok (.getstatic 38, 3) := by decide +kernel
theorem d3 : decode yB 3 = .ok (.ifCond (.eq) 14, 3) := by decide +kernel
theorem d6 : decode yB 6 = .ok (.aload_n 0, 1) := by decide +kernel
theorem d7 : decode yB 7 = .ok (.getfield 15, 3) := by decide +kernel
theorem d10 : decode yB 10 = .ok (.ifCond (.ne) 7, 3) := by decide +kernel
theorem d13 : decode yB 13 = .ok (.iconst 1, 1) := by decide +kernel
theorem d14 : decode yB 14 = .ok (.goto 4, 3) := by decide +kernel
theorem d17 : decode yB 17 = .ok (.iconst 0, 1) := by decide +kernel
theorem d18 : decode yB 18 = .ok (.ireturn, 1) := by decide +kernel
def site : List Cond := [.fieldLink "java/lang/String" 38 "java/lang/String" "COMPACT_STRINGS" "Z", .fieldLink "java/lang/String" 15 "java/lang/String" "coder" "B"]
def tab : Cond := tabOf yN yB 1 (some .boolean) site
def P (x : Addr) (cd z : Int32) (args : Array Value) (s : State) : Prop := args = #[.ref x] ∧ Has x "java/lang/String" "coder" "B" (.int cd) s ∧ (cd = 0 ∨ cd = 1) ∧ StaticIs s "java/lang/String" "COMPACT_STRINGS" "Z" (.int z) ∧ ¬ z = 0
def E (cd : Int32) (r : Option Value) (s u : State) : Prop := XT.PureE (some (.int (1 - cd))) r s u
theorem law (l : Launch) (x : Addr) (cd z : Int32) : Law l yN 1 0 0 0 yB 1 (some .boolean) site (P x cd z) (E cd) [] 0 0 := by
  refine Law.of_walk (plainFor_of_name (by decide +kernel)) (by decide +kernel) (by decide +kernel) (by decide) (fun _ _ h => by rw [h.1]; rfl) (fun _ U U' hal hh h => ⟨h.1, h.2.1.mv hal hh, h.2.2.1, h.2.2.2.1.there hal hh, h.2.2.2.2⟩) (fun r U U' V V' h1 hal h2 h => XT.PureE.mv r U U' V V' h1 hal h2 h) ?_
  intro p e s m args below meth c s₁ X0 hexec hbytes hml hret hlk hnm hown hh0 W hP
  obtain ⟨rfl, hx, hc, s1, hz⟩ := hP
  have c1 : Steps p.tables e below (s₁.setTop (entryFrame m #[.ref x] 1)) (s₁.setTop (mkF m 0 #[.val (.ref x)] [])) := entry rfl
  obtain ⟨T2, X2, q2, st2⟩ := X0.sget hexec hown (wk W (.fieldLink "java/lang/String" 38 "java/lang/String" "COMPACT_STRINGS" "Z")) s1 (fun _ _ h => by rw [hh0]; exact h) (g := (mkF m 0 #[.val (.ref x)] [])) rfl (hb hbytes d0)
  have hh2 := q2.trans hh0
  have c3 : Steps p.tables e below (s₁.setTop (entryFrame m #[.ref x] 1)) (T2.setTop (mkF m 7 #[.val (.ref x)] [.ref x])) := (c1.trans (st2 _ (Steps.refl _))).trans (by
    refine XS.ifNo X2.here hexec rfl (hb hbytes d3) rfl (i0_eq_f hz) ?_
    refine XS.aloadN X2.here hexec rfl (hb hbytes d6) rfl rfl ?_
    exact Steps.refl _)
  obtain ⟨T4, X4, q4, st4⟩ := X2.hget hexec hown (wk W (.fieldLink "java/lang/String" 15 "java/lang/String" "coder" "B")) (hx.mv X2.warmed.alike hh2) (g := (mkF m 7 #[.val (.ref x)] [.ref x])) rfl (rest := []) rfl (hb hbytes d7)
  have c5 : Steps p.tables e below (s₁.setTop (entryFrame m #[.ref x] 1)) (T4.setTop (mkF m 10 #[.val (.ref x)] [.int cd])) := c3.trans (st4 _ (Steps.refl _))
  have c6 : Steps p.tables e below (s₁.setTop (entryFrame m #[.ref x] 1)) (T4.setTop (mkF m 18 #[.val (.ref x)] [.int (1 - cd)])) := by
    rcases hc with rfl | rfl
    · exact c5.trans (by
        refine XS.ifNo X4.here hexec rfl (hb hbytes d10) rfl (i0_ne_f rfl) ?_
        refine iconstV X4.here hexec rfl 1 (hb hbytes d13) (by decide) ?_
        refine XS.goto X4.here hexec rfl (pc0 := 14) rfl (hb hbytes d14) (by decide) rfl ?_
        exact Steps.refl _)
    · exact c5.trans (by
        refine XS.ifYes X4.here hexec rfl (pc0 := 10) rfl (hb hbytes d10) rfl (i0_ne_t (by decide)) (by decide) rfl ?_
        refine iconstV X4.here hexec rfl 0 (hb hbytes d17) (by decide) ?_
        exact Steps.refl _)
  exact ⟨T4, some (.int (1 - cd)), _, _, _, X4, rfl, rfl, rfl, (fun h => by cases h), ⟨rfl, q4.trans hh2⟩, fun fs hl => c6.trans (X4.ireturnOut hexec hret (by rcases hc with rfl | rfl <;> rfl) (Or.inr (Or.inl rfl)) (hb hbytes d18) hl)⟩
end IsL
namespace LChA
def yN : MethodName := ⟨"java/lang/StringLatin1", "charAt", "([BI)C"⟩
abbrev yB : ByteArray := jdk_43_method_2_code
theorem d0 : decode yB 0 = .ok (.iload_n 1, 1) := by decide +kernel
theorem d1 : decode yB 1 = .ok (.aload_n 0, 1) := by decide +kernel
theorem d2 : decode yB 2 = .ok (.arraylength, 1) := by decide +kernel
theorem d3 : decode yB 3 = .ok (.invokestatic 9, 3) := by decide +kernel
theorem d6 : decode yB 6 = .ok (.aload_n 0, 1) := by decide +kernel
theorem d7 : decode yB 7 = .ok (.iload_n 1, 1) := by decide +kernel
theorem d8 : decode yB 8 = .ok (.baload, 1) := by decide +kernel
theorem d9 : decode yB 9 = .ok (.sipush 255, 3) := by decide +kernel
theorem d12 : decode yB 12 = .ok (.iand, 1) := by decide +kernel
theorem d13 : decode yB 13 = .ok (.i2c, 1) := by decide +kernel
theorem d14 : decode yB 14 = .ok (.ireturn, 1) := by decide +kernel
def site : List Cond := [JO.Str_checkIndex.tab] ++ staticW "java/lang/StringLatin1" 9 JO.Str_checkIndex.yN
def tab : Cond := tabOf yN yB 2 (some .char) site
def P (t : Addr) (V : Cell) (i : Nat) (u : Int32) (fm : Value) (args : Array Value) (s : State) : Prop := args = #[.ref t, .int (Int32.ofNat i)] ∧ XT.Arr .byte t V s ∧ V.slots[i]? = some (.int u) ∧ (StaticIs s "jdk/internal/util/Preconditions" "SIOOBE_FORMATTER" "Ljava/util/function/BiFunction;" fm ∧ fm.isRef = true)
def E (u : Int32) (r : Option Value) (s w : State) : Prop := XT.PureE (some (.int (chr8 u))) r s w
theorem law (l : Launch) (t : Addr) (V : Cell) (i : Nat) (u : Int32) (fm : Value) : Law l yN 2 2 2 27 yB 2 (some .char) site (P t V i u fm) (E u) [] 0 0 := by
  refine Law.of_walk (plainFor_of_name (by decide +kernel)) (by decide +kernel) (by decide +kernel) (by decide) (fun _ _ h => by rw [h.1]; rfl) (fun _ U U' hal hh h => ⟨h.1, h.2.1.mv hal hh, h.2.2.1, h.2.2.2.1.there hal hh, h.2.2.2.2⟩) (fun r U U' V V' h1 hal h2 h => XT.PureE.mv r U U' V V' h1 hal h2 h) ?_
  intro p e s m args below meth c s₁ X0 hexec hbytes hml hret hlk hnm hown hh0 W hP
  obtain ⟨rfl, hV, hu, s1, rf⟩ := hP
  have v31 := hV.2.2.2
  have hi : i < V.slots.size := (Array.getElem?_eq_some_iff.mp hu).1
  have c1 : Steps p.tables e below (s₁.setTop (entryFrame m #[.ref t, .int (Int32.ofNat i)] 2)) (s₁.setTop (mkF m 0 #[.val (.ref t), .val (.int (Int32.ofNat i))] [])) := entry rfl
  have c2 : Steps p.tables e below (s₁.setTop (entryFrame m #[.ref t, .int (Int32.ofNat i)] 2)) (s₁.setTop (mkF m 3 #[.val (.ref t), .val (.int (Int32.ofNat i))] [.int (Int32.ofNat V.slots.size), .int (Int32.ofNat i)])) := c1.trans (by
    refine XS.iloadN X0.here hexec rfl (hb hbytes d0) rfl ?_
    refine XS.aloadN X0.here hexec rfl (hb hbytes d1) rfl rfl ?_
    refine X0.alen hexec (hV.mv X0.warmed.alike hh0) rfl rfl (hb hbytes d2) ?_
    exact Steps.refl _)
  obtain ⟨v3, T3, X3, E3, g3⟩ := X0.callS hexec (JO.Str_checkIndex.law l (Int32.ofNat i) (Int32.ofNat V.slots.size) fm) hown (wks W (staticW "java/lang/StringLatin1" 9 JO.Str_checkIndex.yN)) (wk W JO.Str_checkIndex.tab) (W := 0) (Nat.le_of_ble_eq_true rfl) (Nat.le_of_ble_eq_true rfl) (Nat.le_refl _) (Nat.le_refl _) (g := (mkF m 3 #[.val (.ref t), .val (.int (Int32.ofNat i))] [.int (Int32.ofNat V.slots.size), .int (Int32.ofNat i)])) rfl (by rw [hml]; rfl) c2 (argsL := [.int (Int32.ofNat i), .int (Int32.ofNat V.slots.size)]) (rest := []) rfl rfl (by show 2 * 0 + 0 ≤ _; decide) (hb hbytes d3) (⟨rfl, rf, s1.there X0.warmed.alike hh0, Int32.ofNat_not_neg (by omega), lt32 v31 hi⟩)
  obtain ⟨rfl, q3⟩ := E3
  have hh3 := q3.trans hh0
  have c4 : Steps p.tables e below (s₁.setTop (entryFrame m #[.ref t, .int (Int32.ofNat i)] 2)) (T3.setTop (mkF m 14 #[.val (.ref t), .val (.int (Int32.ofNat i))] [.int (chr8 u)])) := Steps.trans g3 (by
    refine XS.aloadN X3.here hexec rfl (hb hbytes d6) rfl rfl ?_
    refine XS.iloadN X3.here hexec rfl (hb hbytes d7) rfl ?_
    refine X3.aget hexec (hV.mv X3.warmed.alike hh3) rfl hu rfl rfl (hb hbytes d8) ?_
    refine sipushV X3.here hexec rfl 255 (hb hbytes d9) (by decide) ?_
    refine XS.iand X3.here hexec rfl (hb hbytes d12) rfl ?_
    refine i2c X3.here hexec rfl (hb hbytes d13) rfl ?_
    exact Steps.refl _)
  exact ⟨T3, some (.int (chr8 u)), _, _, _, X3, rfl, rfl, rfl, (fun h => by cases h), ⟨rfl, hh3⟩, fun fs hl => c4.trans (X3.ireturnOut hexec hret (narrow_c _) (Or.inr (Or.inr (Or.inr (Or.inl rfl)))) (hb hbytes d14) hl)⟩
end LChA
end StrChars
namespace StrChars.Road
open Jvm Sem ClassFile Op Lib Jvm.Stand Jvm.Free Jvm.Free.XT
open Jvm.Lib.Cold (StaticIs)
theorem consq {a : Array Value} {s : State} {c : Jvm.Cond} {L : List Jvm.Cond} (h0 : c.before a s = true) (h : ∀ w ∈ L, w.before a s = true) : ∀ w ∈ c :: L, w.before a s = true := fun w hw => (List.mem_cons.mp hw).elim (fun e => e ▸ h0) (h w)
/-- the words of String.length(), either coding -/
abbrev wordsLen : List Jvm.Cond := [.code Len.yN Len.yB 1 (some .int), .initialized ST, .fieldLink ST 9 ST "value" "[B", .fieldLink ST 38 ST "COMPACT_STRINGS" "Z", .fieldLink ST 15 ST "coder" "B", .code Cdr.yN Cdr.yB 1 (some .byte), .methodLink ST 335 Cdr.yN, .declares Cdr.yN, .selects ST Cdr.yN Cdr.yN, .instanceMethod Cdr.yN]
theorem tabLen_of {a : Array Value} {s : State} (h : ∀ w ∈ wordsLen, w.before a s = true) : Len.tab.before a s = true := by
  have hc : Cdr.tab.before a s = true := unparts (wk h (.code Cdr.yN Cdr.yB 1 (some .byte))) (wks h (.initialized Cdr.yN.cls :: Cdr.site))
  have q := consq hc h
  exact unparts (wk q (.code Len.yN Len.yB 1 (some .int))) (wks q (.initialized Len.yN.cls :: Len.site))
theorem movedLen {Z s : State} {a0 args : Array Value} (hZ : Z.Warmed39 s.vm) (hw : ∀ d ∈ wordsLen, d.before a0 Z = true) : ∀ d ∈ wordsLen, d.before args s = true := fun d hd => by
  have q := hw d hd
  have t : ∀ d ∈ wordsLen, d = .arrayClass .byte ∨ (d.onTables && d.keepsFace) = true := by decide +kernel
  rcases t d hd with rfl | t
  · exact RoadKit.mvA hZ q
  · exact RoadKit.mv hZ q t
/-- the bytes of the chars cs, low before high -/
def wideBytes : List Int32 → List Value
  | [] => []
  | c :: cs => .int (lo8 c) :: .int (hi8 c) :: wideBytes cs
theorem wide_lo (d : Value) : ∀ (cs : List Int32) (j : Nat), j < cs.length → (wideBytes cs).getD (2 * j) d = .int (lo8 (cs.getD j 0))
  | [], j, h => absurd h (Nat.not_lt_zero j)
  | c :: cs, 0, _ => rfl
  | c :: cs, j + 1, h => by
    have q := wide_lo d cs j (by simpa using h)
    rw [show 2 * (j + 1) = 2 * j + 1 + 1 from by omega]
    simpa [wideBytes] using q
theorem wide_hi (d : Value) : ∀ (cs : List Int32) (j : Nat), j < cs.length → (wideBytes cs).getD (2 * j + 1) d = .int (hi8 (cs.getD j 0))
  | [], j, h => absurd h (Nat.not_lt_zero j)
  | c :: cs, 0, _ => rfl
  | c :: cs, j + 1, h => by
    have q := wide_hi d cs j (by simpa using h)
    rw [show 2 * (j + 1) + 1 = 2 * j + 1 + 1 + 1 from by omega]
    simpa [wideBytes] using q
theorem low_at (d : Value) (cs : List Int32) (j : Nat) (h : j < cs.length) : (cs.map fun c => Value.int (lo8 c)).getD j d = .int (lo8 (cs.getD j 0)) := by
  simp [List.getD_eq_getElem?_getD, h]
/-- an array of N2 bytes vs codes the chars cs by the coder cd -/
def CodA (cs : List Int32) (cd N2 : Int32) (vs : List Value) : Prop := (cd = 0 ∧ N2 = Int32.ofNat cs.length ∧ vs = (cs.map fun c => Value.int (lo8 c)) ∧ ∀ c ∈ cs, ¬ 255 < c) ∨ (cd = 1 ∧ N2 = Int32.ofNat (2 * cs.length) ∧ vs = wideBytes cs ∧ ∃ c ∈ cs, 255 < c)
theorem CodA.cod {cs : List Int32} {cd N2 : Int32} {vs : List Value} {V : Cell} (h : CodA cs cd N2 vs) (hn : 2 * cs.length < 2 ^ 31) (hs : V.slots.size = N2.toNatClampNeg) (hv : RoadKit.Has V vs (.int 0)) : Cod cd cs.length (fun j => cs.getD j 0) V := by
  rcases h with ⟨rfl, rfl, rfl, h⟩ | ⟨rfl, rfl, rfl, c, hc, hw⟩
  · rw [n32 (by omega)] at hs
    exact Or.inl ⟨rfl, hs, fun j hj => ⟨by rw [hv j (by omega), low_at _ _ _ hj], by
      have e : cs.getD j 0 = cs[j] := by simp [List.getD_eq_getElem?_getD, hj]
      show ¬ 255 < cs.getD j 0
      rw [e]; exact h _ (List.getElem_mem _)⟩⟩
  · rw [n32 (by omega)] at hs
    obtain ⟨j, hj, rfl⟩ := List.getElem_of_mem hc
    exact Or.inr ⟨rfl, hs, fun j hj => ⟨by rw [hv _ (by omega), wide_lo _ _ _ hj], by rw [hv _ (by omega), wide_hi _ _ _ hj]⟩, j, hj, by
      have e : cs.getD j 0 = cs[j] := by simp [List.getD_eq_getElem?_getD, hj]
      show 255 < cs.getD j 0
      rw [e]; exact hw⟩
/-- an object of exactly java/lang/String, its two fields found: as the laws ask it -/
theorem strObj {Z U : State} {a0 : Array Value} {kI : Nat} (wi : (Jvm.Cond.instantiable ST kI).before a0 Z = true) (al : Z.vm.Alike U.vm) {x : Addr} {v0 c0 : Value} (E : RoadKit.Exa Z U.heap x ST) (V : RoadKit.Fld Z U.heap x ST "value" "[B" v0) (C : RoadKit.Fld Z U.heap x ST "coder" "B" c0) :
    ∃ (D : Cell) (fV fC : Field), Blank ST x D U ∧ Found ST "value" "[B" fV U ∧ Found ST "coder" "B" fC U ∧ D.slots[fV.slot]? = some v0 ∧ D.slots[fC.slot]? = some c0 ∧ RoadKit.slotOf Z ST "value" "[B" = fV.slot ∧ RoadKit.slotOf Z ST "coder" "B" = fC.slot := by
  obtain ⟨D, cfV, kV, iV, fV, hD, gV, stV, knV, obV, asV, slV⟩ := V
  obtain ⟨D', cfC, kC, iC, fC, hD', gC, stC, -, -, asC, slC⟩ := C
  cases hD.symm.trans hD'
  obtain ⟨D2, kD, e1, e2, e3, e4, e5⟩ := E
  cases hD.symm.trans e1
  obtain ⟨c2, k2, i1, i2, i3, -⟩ := Cond.instantiable_spec wi
  cases e2.symm.trans i1
  cases e3.symm.trans i2
  obtain ⟨kU, u1, u2⟩ := al.2.2 _ _ e3
  exact ⟨D, fV, fC, ⟨hD, ⟨knV, fun q hq => by rw [hq] at obV; cases obV⟩, by rw [al.findClass]; exact e2, kU, u1, by rw [u2]; exact i3, by rw [u2]; exact e5 i3⟩, ⟨SBG.found_only al ⟨cfV, kV, iV, gV⟩, stV⟩, ⟨SBG.found_only al ⟨cfC, kC, iC, gC⟩, stC⟩, slV, slC, by simp [RoadKit.slotOf, gV], by simp [RoadKit.slotOf, gC]⟩
theorem sta_is {Z U : State} (al : Z.vm.Alike U.vm) {C n d : String} {v : Value} (S : RoadKit.Sta Z U.heap C n d v) : StaticIs U C n d v := by
  obtain ⟨cfS, iS, kS, fS, st, cS, t1, t2, t3, t4, t5, t6, t7⟩ := S
  exact StaticIs.there (s := { Z with heap := U.heap }) ⟨cfS, iS, kS, fS, st, cS, t1, t2, t3, t4, t5, (fun q => by rw [q] at t6; cases t6), t7⟩ al rfl
/-- **length() OF SUCH A STRING** -/
theorem lenW {p : Program} {l : Launch} {e : Env} {R : Room} {s : State} {args : Array Value} {below : List Frame} {len W : Nat} {Z : State} {a0 : Array Value} {h : Heap} (hZ : Z.Warmed39 s.vm) (hw : ∀ d ∈ wordsLen, d.before a0 Z = true) {kI : Nat} (wi : (Jvm.Cond.instantiable ST kI).before a0 Z = true)
    {x t : Addr} {kb : ClassId} {cs : List Int32} {cd N2 z : Int32} {vs : List Value} (E : RoadKit.Exa Z h x ST) (V : RoadKit.Fld Z h x ST "value" "[B" (.ref t)) (C : RoadKit.Fld Z h x ST "coder" "B" (.int cd)) (K : RoadKit.Arv Z h t kb .byte N2 vs (.int 0)) (hc : CodA cs cd N2 vs) (hb : ∀ c ∈ cs, ¬ c < 0 ∧ ¬ (65535 : Int32) < c)
    (S : RoadKit.Sta Z h ST "COMPACT_STRINGS" "Z" (.int z)) (hz : ¬ z = 0) (l2 : cs.length ≤ 4000) (hfr : 2 ≤ R.frames) (hlo : W + 25 ≤ R.locals) :
    Back l R p e below s args (⟨"java/lang/String", "length", "()I"⟩ : MethodName) len W (fun P a => a = #[.ref x] ∧ P.U.heap = h ∧ P.cells + 0 ≤ R.cells ∧ P.slots + 0 ≤ R.slots)
      (fun P _ v B => ∃ L, (v = some (.int (Int32.ofNat cs.length)) ∧ L = [] ∧ B.U.heap = h) ∧ B.locs = P.locs ++ L ∧ B.cells = P.cells + 0 ∧ B.slots = P.slots + 0) := by
  obtain ⟨A, K1, K2, K3, K4, K5, K6⟩ := K
  have hcod := hc.cod (by omega) K3 K5
  intro m meth c P g ig mk a X hg hsize hdg hW hn hp'
  obtain ⟨rfl, rfl, r1, r2⟩ := hp'
  have al : Z.vm.Alike P.U.vm := hZ.alike.trans X.warmed.alike
  obtain ⟨D, fV, fC, hB, F1, F2, g1, g2, -, -⟩ := strObj wi al E V C
  have hx : Txt x t A cd cs.length (fun j => cs.getD j 0) P.U := ⟨⟨_, hB.2.2.1, D, hB.1, rfl, by cases q : D.vm <;> first | rfl | exact absurd q (hB.2.1.2 _)⟩, Has.of hB F1 g1, Has.of hB F2 g2, ⟨K1.1, State.isArrayOf_alike al K1.2.1, K1.2.2, by rcases hcod with ⟨-, q, -⟩ | ⟨-, q, -⟩ <;> omega⟩, hcod, fun j hj => by
    have e : cs.getD j 0 = cs[j] := by simp [List.getD_eq_getElem?_getD, hj]
    show ¬ cs.getD j 0 < 0 ∧ ¬ 65535 < cs.getD j 0
    rw [e]; exact hb _ (List.getElem_mem _)⟩
  obtain ⟨v, B, X', ⟨⟨hv, hh⟩, hl, hk, hs⟩, st⟩ := Len.pays x t A cd cs.length (fun j => cs.getD j 0) z (tabLen_of (movedLen hZ hw)) hfr hlo m meth c P g ig mk _ X hg hsize hdg hW hn ⟨r1, r2, rfl, hx, sta_is al S, hz⟩
  exact ⟨v, B, X', ⟨[], ⟨hv, rfl, hh⟩, hl, hk, hs⟩, st⟩
end StrChars.Road
namespace StrChars
open Jvm Sem ClassFile Op Lib Jvm.Stand Jvm.Free.XT Jvm.Free.ALB Jvm.Free.JM Jvm.Free
open Jvm.Lib.Cold (StaticIs)
namespace Emp
def yN : MethodName := ⟨"java/lang/String", "isEmpty", "()Z"⟩
abbrev yB : ByteArray := jdk_42_method_55_code
theorem d0 : decode yB 0 = .ok (.aload_n 0, 1) := by decide +kernel
theorem d1 : decode yB 1 = .ok (.getfield 9, 3) := by decide +kernel
theorem d4 : decode yB 4 = .ok (.arraylength, 1) := by decide +kernel
theorem d5 : decode yB 5 = .ok (.ifCond (.ne) 7, 3) := by decide +kernel
theorem d8 : decode yB 8 = .ok (.iconst 1, 1) := by decide +kernel
theorem d9 : decode yB 9 = .ok (.goto 4, 3) := by decide +kernel
theorem d12 : decode yB 12 = .ok (.iconst 0, 1) := by decide +kernel
theorem d13 : decode yB 13 = .ok (.ireturn, 1) := by decide +kernel
def site : List Cond := [.fieldLink "java/lang/String" 9 "java/lang/String" "value" "[B"]
def tab : Cond := tabOf yN yB 1 (some .boolean) site
def P (x t : Addr) (V : Cell) (cd : Int32) (n : Nat) (f : Nat → Int32) (args : Array Value) (s : State) : Prop := args = #[.ref x] ∧ Txt x t V cd n f s
def E (n : Nat) (r : Option Value) (s u : State) : Prop := XT.PureE (some (.int (if n = 0 then 1 else 0))) r s u
/-- isEmpty() of a String of n chars -/
theorem law (l : Launch) (x t : Addr) (V : Cell) (cd : Int32) (n : Nat) (f : Nat → Int32) : Law l yN 1 0 0 0 yB 1 (some .boolean) site (P x t V cd n f) (E n) [] 0 0 := by
  refine Law.of_walk (plainFor_of_name (by decide +kernel)) (by decide +kernel) (by decide +kernel) (by decide) (fun _ _ h => by rw [h.1]; rfl) (fun _ U U' hal hh h => ⟨h.1, h.2.mv hal hh⟩) (fun r U U' V V' h1 hal h2 h => XT.PureE.mv r U U' V V' h1 hal h2 h) ?_
  intro p e s m args below meth c s₁ X0 hexec hbytes hml hret hlk hnm hown hh0 W hP
  obtain ⟨rfl, hx⟩ := hP
  have v31 := hx.2.2.2.1.2.2.2
  have c1 : Steps p.tables e below (s₁.setTop (entryFrame m #[.ref x] 1)) (s₁.setTop (mkF m 1 #[.val (.ref x)] [.ref x])) := Steps.trans (entry rfl) (by
    show Steps p.tables e below (s₁.setTop (mkF m 0 #[.val (.ref x)] [])) _
    refine XS.aloadN X0.here hexec rfl (hb hbytes d0) rfl rfl ?_
    exact Steps.refl _)
  obtain ⟨T2, X2, q2, st2⟩ := X0.hget hexec hown (wk W (.fieldLink "java/lang/String" 9 "java/lang/String" "value" "[B")) (hx.mv X0.warmed.alike hh0).2.1 (g := (mkF m 1 #[.val (.ref x)] [.ref x])) rfl (rest := []) rfl (hb hbytes d1)
  have hh2 := q2.trans hh0
  have hx2 := hx.mv X2.warmed.alike hh2
  have c3 : Steps p.tables e below (s₁.setTop (entryFrame m #[.ref x] 1)) (T2.setTop (mkF m 5 #[.val (.ref x)] [.int (Int32.ofNat V.slots.size)])) := (c1.trans (st2 _ (Steps.refl _))).trans (by
    refine X2.alen hexec hx2.2.2.2.1 rfl rfl (hb hbytes d4) ?_
    exact Steps.refl _)
  have hz : V.slots.size = 0 ↔ n = 0 := by
    rcases hx.2.2.2.2.1 with ⟨-, q, -⟩ | ⟨-, q, -⟩ <;> omega
  by_cases h0 : n = 0
  · have c4 : Steps p.tables e below (s₁.setTop (entryFrame m #[.ref x] 1)) (T2.setTop (mkF m 13 #[.val (.ref x)] [.int 1])) := c3.trans (by
      refine XS.ifNo X2.here hexec rfl (hb hbytes d5) rfl (i0_ne_f (by rw [hz.mpr h0]; rfl)) ?_
      refine iconstV X2.here hexec rfl 1 (hb hbytes d8) (by decide) ?_
      refine XS.goto X2.here hexec rfl (pc0 := 9) rfl (hb hbytes d9) (by decide) rfl ?_
      exact Steps.refl _)
    exact ⟨T2, some (.int 1), _, _, _, X2, rfl, rfl, rfl, (fun h => by cases h), ⟨by rw [if_pos h0], hh2⟩, fun fs hl => c4.trans (X2.ireturnOut hexec hret rfl (Or.inr (Or.inl rfl)) (hb hbytes d13) hl)⟩
  · have c4 : Steps p.tables e below (s₁.setTop (entryFrame m #[.ref x] 1)) (T2.setTop (mkF m 13 #[.val (.ref x)] [.int 0])) := c3.trans (by
      refine XS.ifYes X2.here hexec rfl (pc0 := 5) rfl (hb hbytes d5) rfl (i0_ne_t (nz32 v31 (by omega))) (by decide) rfl ?_
      refine iconstV X2.here hexec rfl 0 (hb hbytes d12) (by decide) ?_
      exact Steps.refl _)
    exact ⟨T2, some (.int 0), _, _, _, X2, rfl, rfl, rfl, (fun h => by cases h), ⟨by rw [if_neg h0], hh2⟩, fun fs hl => c4.trans (X2.ireturnOut hexec hret rfl (Or.inr (Or.inl rfl)) (hb hbytes d13) hl)⟩
theorem pays {l : Launch} {R : Room} {p : Program} {e : Env} {below : List Frame} {s : State} {sargs : Array Value} {len W : Nat} (x t : Addr) (V : Cell) (cd : Int32) (n : Nat) (f : Nat → Int32) (htab : tab.before sargs s = true) (hfr : 1 ≤ R.frames) (hlo : W + 12 ≤ R.locals) :
    Back l R p e below s sargs yN len W (fun A₁ a₁ => A₁.cells + 0 ≤ R.cells ∧ A₁.slots + 0 ≤ R.slots ∧ P x t V cd n f a₁ A₁.U) (fun A₁ _ v₁ B₁ => E n v₁ A₁.U B₁.U ∧ B₁.locs = A₁.locs ++ [] ∧ B₁.cells = A₁.cells + 0 ∧ B₁.slots = A₁.slots + 0) :=
  (law l x t V cd n f).pays htab hfr (by omega)
end Emp
end StrChars
namespace StrChars.Road
open Jvm Sem ClassFile Op Lib Jvm.Stand Jvm.Free Jvm.Free.XT
open Jvm.Lib.Cold (StaticIs)
/-- the words of String.isEmpty() -/
abbrev wordsEmp : List Jvm.Cond := [.code Emp.yN Emp.yB 1 (some .boolean), .initialized ST, .fieldLink ST 9 ST "value" "[B"]
theorem tabEmp_of {a : Array Value} {s : State} (h : ∀ w ∈ wordsEmp, w.before a s = true) : Emp.tab.before a s = true := unparts (wk h (.code Emp.yN Emp.yB 1 (some .boolean))) (wks h (.initialized Emp.yN.cls :: Emp.site))
theorem movedEmp {Z s : State} {a0 args : Array Value} (hZ : Z.Warmed39 s.vm) (hw : ∀ d ∈ wordsEmp, d.before a0 Z = true) : ∀ d ∈ wordsEmp, d.before args s = true := fun d hd => by
  have t : ∀ d ∈ wordsEmp, (d.onTables && d.keepsFace) = true := by decide +kernel
  exact RoadKit.mv hZ (hw d hd) (t d hd)
/-- the road's facts of a String, as the laws ask it -/
theorem txt_of {Z U : State} {a0 : Array Value} {kI : Nat} (wi : (Jvm.Cond.instantiable ST kI).before a0 Z = true) (al : Z.vm.Alike U.vm) {x t : Addr} {kb : ClassId} {cs : List Int32} {cd N2 : Int32} {vs : List Value} (E : RoadKit.Exa Z U.heap x ST) (V : RoadKit.Fld Z U.heap x ST "value" "[B" (.ref t)) (C : RoadKit.Fld Z U.heap x ST "coder" "B" (.int cd)) (K : RoadKit.Arv Z U.heap t kb .byte N2 vs (.int 0)) (hc : CodA cs cd N2 vs) (hb : ∀ c ∈ cs, ¬ c < 0 ∧ ¬ (65535 : Int32) < c) (l2 : cs.length ≤ 4000) :
    ∃ A, Txt x t A cd cs.length (fun j => cs.getD j 0) U := by
  obtain ⟨A, K1, K2, K3, K4, K5, K6⟩ := K
  have hcod := hc.cod (by omega) K3 K5
  obtain ⟨D, fV, fC, hB, F1, F2, g1, g2, -, -⟩ := strObj wi al E V C
  exact ⟨A, ⟨_, hB.2.2.1, D, hB.1, rfl, by cases q : D.vm <;> first | rfl | exact absurd q (hB.2.1.2 _)⟩, Has.of hB F1 g1, Has.of hB F2 g2, ⟨K1.1, State.isArrayOf_alike al K1.2.1, K1.2.2, by rcases hcod with ⟨-, q, -⟩ | ⟨-, q, -⟩ <;> omega⟩, hcod, fun j hj => by
    have e : cs.getD j 0 = cs[j] := by simp [List.getD_eq_getElem?_getD, hj]
    show ¬ cs.getD j 0 < 0 ∧ ¬ 65535 < cs.getD j 0
    rw [e]; exact hb _ (List.getElem_mem _)⟩
/-- **isEmpty() OF SUCH A STRING** -/
theorem empW {p : Program} {l : Launch} {e : Env} {R : Room} {s : State} {args : Array Value} {below : List Frame} {len W : Nat} {Z : State} {a0 : Array Value} {h : Heap} (hZ : Z.Warmed39 s.vm) (hw : ∀ d ∈ wordsEmp, d.before a0 Z = true) {kI : Nat} (wi : (Jvm.Cond.instantiable ST kI).before a0 Z = true)
    {x t : Addr} {kb : ClassId} {cs : List Int32} {cd N2 : Int32} {vs : List Value} (E : RoadKit.Exa Z h x ST) (V : RoadKit.Fld Z h x ST "value" "[B" (.ref t)) (C : RoadKit.Fld Z h x ST "coder" "B" (.int cd)) (K : RoadKit.Arv Z h t kb .byte N2 vs (.int 0)) (hc : CodA cs cd N2 vs) (hb : ∀ c ∈ cs, ¬ c < 0 ∧ ¬ (65535 : Int32) < c) (l2 : cs.length ≤ 4000) (hfr : 1 ≤ R.frames) (hlo : W + 12 ≤ R.locals) :
    Back l R p e below s args (⟨"java/lang/String", "isEmpty", "()Z"⟩ : MethodName) len W (fun P a => a = #[.ref x] ∧ P.U.heap = h ∧ P.cells + 0 ≤ R.cells ∧ P.slots + 0 ≤ R.slots)
      (fun P _ v B => ∃ L, (v = some (.int (if cs.length = 0 then 1 else 0)) ∧ L = [] ∧ B.U.heap = h) ∧ B.locs = P.locs ++ L ∧ B.cells = P.cells + 0 ∧ B.slots = P.slots + 0) := by
  intro m meth c P g ig mk a X hg hsize hdg hW hn hp'
  obtain ⟨rfl, rfl, r1, r2⟩ := hp'
  have al : Z.vm.Alike P.U.vm := hZ.alike.trans X.warmed.alike
  obtain ⟨A, hx⟩ := txt_of wi al E V C K hc hb l2
  obtain ⟨v, B, X', ⟨⟨hv, hh⟩, hl, hk, hs⟩, st⟩ := Emp.pays x t A cd cs.length (fun j => cs.getD j 0) (tabEmp_of (movedEmp hZ hw)) hfr hlo m meth c P g ig mk _ X hg hsize hdg hW hn ⟨r1, r2, rfl, hx⟩
  exact ⟨v, B, X', ⟨[], ⟨hv, rfl, hh⟩, hl, hk, hs⟩, st⟩
end StrChars.Road
namespace StrChars
open Jvm Sem ClassFile Op Lib Jvm.Stand Jvm.Free.XT Jvm.Free.ALB Jvm.Free.JM Jvm.Free
open Jvm.Lib.Cold (StaticIs)
namespace ChN
def yN : MethodName := ⟨"java/lang/String", "charAt", "(I)C"⟩
abbrev yB : ByteArray := jdk_42_method_56_code
theorem d0 : decode yB 0 = .ok (.aload_n 0, 1) := by decide +kernel
theorem d1 : decode yB 1 = .ok (.invokevirtual 492, 3) := by decide +kernel
theorem d4 : decode yB 4 = .ok (.ifCond (.eq) 12, 3) := by decide +kernel
theorem d7 : decode yB 7 = .ok (.aload_n 0, 1) := by decide +kernel
theorem d8 : decode yB 8 = .ok (.getfield 9, 3) := by decide +kernel
theorem d11 : decode yB 11 = .ok (.iload_n 1, 1) := by decide +kernel
theorem d12 : decode yB 12 = .ok (.invokestatic 495, 3) := by decide +kernel
theorem d15 : decode yB 15 = .ok (.ireturn, 1) := by decide +kernel
def site : List Cond := [.fieldLink "java/lang/String" 9 "java/lang/String" "value" "[B", IsL.tab, LChA.tab] ++ virtW "java/lang/String" 492 "java/lang/String" IsL.yN IsL.yN ++ staticW "java/lang/String" 495 LChA.yN
def tab : Cond := tabOf yN yB 2 (some .char) site
def P (x t : Addr) (V : Cell) (n : Nat) (f : Nat → Int32) (z : Int32) (fm : Value) (i : Nat) (args : Array Value) (s : State) : Prop := args = #[.ref x, .int (Int32.ofNat i)] ∧ Txt x t V 0 n f s ∧ i < n ∧ StaticIs s "java/lang/String" "COMPACT_STRINGS" "Z" (.int z) ∧ ¬ z = 0 ∧ StaticIs s "jdk/internal/util/Preconditions" "SIOOBE_FORMATTER" "Ljava/util/function/BiFunction;" fm ∧ fm.isRef = true
def E (f : Nat → Int32) (i : Nat) (r : Option Value) (s u : State) : Prop := XT.PureE (some (.int (f i))) r s u
/-- charAt(i) of a Latin-1 String of n chars, i < n: f i -/
theorem law (l : Launch) (x t : Addr) (V : Cell) (n : Nat) (f : Nat → Int32) (z : Int32) (fm : Value) (i : Nat) : Law l yN 2 1 3 40 yB 2 (some .char) site (P x t V n f z fm i) (E f i) [] 0 0 := by
  refine Law.of_walk (plainFor_of_name (by decide +kernel)) (by decide +kernel) (by decide +kernel) (by decide) (fun _ _ h => by rw [h.1]; rfl) (fun _ U U' hal hh h => ⟨h.1, h.2.1.mv hal hh, h.2.2.1, h.2.2.2.1.there hal hh, h.2.2.2.2.1, h.2.2.2.2.2.1.there hal hh, h.2.2.2.2.2.2⟩) (fun r U U' V V' h1 hal h2 h => XT.PureE.mv r U U' V V' h1 hal h2 h) ?_
  intro p e s m args below meth c s₁ X0 hexec hbytes hml hret hlk hnm hown hh0 W hP
  obtain ⟨rfl, hx, hi, s1, hz, s3, rf⟩ := hP
  have v31 := hx.2.2.2.1.2.2.2
  have hr := hx.2.2.2.2.2 i hi
  have hx0 := hx.mv X0.warmed.alike hh0
  have c1 : Steps p.tables e below (s₁.setTop (entryFrame m #[.ref x, .int (Int32.ofNat i)] 2)) (s₁.setTop (mkF m 1 #[.val (.ref x), .val (.int (Int32.ofNat i))] [.ref x])) := Steps.trans (entry rfl) (by
    show Steps p.tables e below (s₁.setTop (mkF m 0 #[.val (.ref x), .val (.int (Int32.ofNat i))] [])) _
    refine XS.aloadN X0.here hexec rfl (hb hbytes d0) rfl rfl ?_
    exact Steps.refl _)
  obtain ⟨v2, T2, X2, E2, g2⟩ := X0.callV hexec (IsL.law l x 0 z) hown (wks W (virtW "java/lang/String" 492 "java/lang/String" IsL.yN IsL.yN)) rfl (by decide) (wk W IsL.tab) (W := 0) (Nat.le_of_ble_eq_true rfl) (Nat.le_of_ble_eq_true rfl) (Nat.le_refl _) (Nat.le_refl _) (hx0.1.fc X0.warmed.alike) hx0.1.is (g := (mkF m 1 #[.val (.ref x), .val (.int (Int32.ofNat i))] [.ref x])) rfl (by rw [hml]; rfl) c1 (argsL := []) (rest := []) rfl rfl (by show 2 * 0 + 0 ≤ _; decide) (hb hbytes d1) (⟨rfl, hx0.2.2.1, hx.2.2.2.2.1.cd, s1.there X0.warmed.alike hh0, hz⟩)
  obtain ⟨rfl, q2⟩ := E2
  have hh2 := q2.trans hh0
  have hx2 := hx.mv X2.warmed.alike hh2
  obtain ⟨-, k1, k2⟩ | ⟨k0, -⟩ := hx.2.2.2.2.1
  · have c3 : Steps p.tables e below (s₁.setTop (entryFrame m #[.ref x, .int (Int32.ofNat i)] 2)) (T2.setTop (mkF m 8 #[.val (.ref x), .val (.int (Int32.ofNat i))] [.ref x])) := Steps.trans g2 (by
      refine XS.ifNo X2.here hexec rfl (hb hbytes d4) rfl (i0_eq_f (by decide)) ?_
      refine XS.aloadN X2.here hexec rfl (hb hbytes d7) rfl rfl ?_
      exact Steps.refl _)
    obtain ⟨T4, X4, q4, st4⟩ := X2.hget hexec hown (wk W (.fieldLink "java/lang/String" 9 "java/lang/String" "value" "[B")) hx2.2.1 (g := (mkF m 8 #[.val (.ref x), .val (.int (Int32.ofNat i))] [.ref x])) rfl (rest := []) rfl (hb hbytes d8)
    have hh4 := q4.trans hh2
    have c5 : Steps p.tables e below (s₁.setTop (entryFrame m #[.ref x, .int (Int32.ofNat i)] 2)) (T4.setTop (mkF m 12 #[.val (.ref x), .val (.int (Int32.ofNat i))] [.int (Int32.ofNat i), .ref t])) := (c3.trans (st4 _ (Steps.refl _))).trans (by
      refine XS.iloadN X4.here hexec rfl (hb hbytes d11) rfl ?_
      exact Steps.refl _)
    obtain ⟨v6, T6, X6, E6, g6⟩ := X4.callS hexec (LChA.law l t V i (lo8 (f i)) fm) hown (wks W (staticW "java/lang/String" 495 LChA.yN)) (wk W LChA.tab) (W := 0) (Nat.le_of_ble_eq_true rfl) (Nat.le_of_ble_eq_true rfl) (Nat.le_refl _) (Nat.le_refl _) (g := (mkF m 12 #[.val (.ref x), .val (.int (Int32.ofNat i))] [.int (Int32.ofNat i), .ref t])) rfl (by rw [hml]; rfl) c5 (argsL := [.ref t, .int (Int32.ofNat i)]) (rest := []) rfl rfl (by show 2 * 0 + 0 ≤ _; decide) (hb hbytes d12) (⟨rfl, hx.2.2.2.1.mv X4.warmed.alike hh4, (k2 i hi).1, s3.there X4.warmed.alike hh4, rf⟩)
    obtain ⟨rfl, q6⟩ := E6
    rw [chr8_lo8 hr.1 (k2 i hi).2] at g6
    exact ⟨T6, some (.int (f i)), _, _, _, X6, rfl, rfl, rfl, (fun h => by cases h), ⟨rfl, q6.trans hh4⟩, fun fs hl => Steps.trans g6 (X6.ireturnOut hexec hret (narrow_ch hr.1 hr.2) (Or.inr (Or.inr (Or.inr (Or.inl rfl)))) (hb hbytes d15) hl)⟩
  · exact absurd k0 (by decide)
theorem pays {l : Launch} {R : Room} {p : Program} {e : Env} {below : List Frame} {s : State} {sargs : Array Value} {len W : Nat} (x t : Addr) (V : Cell) (n : Nat) (f : Nat → Int32) (z : Int32) (fm : Value) (i : Nat) (htab : tab.before sargs s = true) (hfr : 4 ≤ R.frames) (hlo : W + 53 ≤ R.locals) :
    Back l R p e below s sargs yN len W (fun A₁ a₁ => A₁.cells + 0 ≤ R.cells ∧ A₁.slots + 0 ≤ R.slots ∧ P x t V n f z fm i a₁ A₁.U) (fun A₁ _ v₁ B₁ => E f i v₁ A₁.U B₁.U ∧ B₁.locs = A₁.locs ++ [] ∧ B₁.cells = A₁.cells + 0 ∧ B₁.slots = A₁.slots + 0) :=
  (law l x t V n f z fm i).pays htab hfr (by omega)
end ChN
end StrChars
namespace StrChars.Road
open Jvm Sem ClassFile Op Lib Jvm.Stand Jvm.Free Jvm.Free.XT
open Jvm.Lib.Cold (StaticIs)
/-- the words of String.charAt(int), the Latin-1 road alone -/
abbrev wordsChN : List Jvm.Cond := [.code ChN.yN ChN.yB 2 (some .char), .initialized ST, .fieldLink ST 9 ST "value" "[B", .fieldLink ST 38 ST "COMPACT_STRINGS" "Z", .fieldLink ST 15 ST "coder" "B", .code IsL.yN IsL.yB 1 (some .boolean), .methodLink ST 492 IsL.yN, .declares IsL.yN, .selects ST IsL.yN IsL.yN, .instanceMethod IsL.yN,
  .methodLink ST 495 LChA.yN, .static LChA.yN, .code LChA.yN LChA.yB 2 (some .char), .initialized "java/lang/StringLatin1", .methodLink "java/lang/StringLatin1" 9 JO.Str_checkIndex.yN, .static JO.Str_checkIndex.yN, .code JO.Str_checkIndex.yN JO.Str_checkIndex.yB 2 none,
  .fieldLink ST 1053 "jdk/internal/util/Preconditions" "SIOOBE_FORMATTER" "Ljava/util/function/BiFunction;", .methodLink ST 1059 JC.PreCheck.yN, .static JC.PreCheck.yN, .code JC.PreCheck.yN JC.PreCheck.yB 3 (some .int), .initialized "jdk/internal/util/Preconditions"]
theorem tabChN_of {a : Array Value} {s : State} (h : ∀ w ∈ wordsChN, w.before a s = true) : ChN.tab.before a s = true := by
  have hp : JC.PreCheck.tab.before a s = true := unparts (wk h (.code JC.PreCheck.yN JC.PreCheck.yB 3 (some .int))) (wks h (.initialized JC.PreCheck.yN.cls :: JC.PreCheck.site))
  have qk := consq hp h
  have hk : JO.Str_checkIndex.tab.before a s = true := unparts (wk qk (.code JO.Str_checkIndex.yN JO.Str_checkIndex.yB 2 none)) (wks qk (.initialized JO.Str_checkIndex.yN.cls :: JO.Str_checkIndex.site))
  have ql := consq hk h
  have hl : LChA.tab.before a s = true := unparts (wk ql (.code LChA.yN LChA.yB 2 (some .char))) (wks ql (.initialized LChA.yN.cls :: LChA.site))
  have hi : IsL.tab.before a s = true := unparts (wk h (.code IsL.yN IsL.yB 1 (some .boolean))) (wks h (.initialized IsL.yN.cls :: IsL.site))
  have q := consq hi (consq hl h)
  exact unparts (wk q (.code ChN.yN ChN.yB 2 (some .char))) (wks q (.initialized ChN.yN.cls :: ChN.site))
theorem movedChN {Z s : State} {a0 args : Array Value} (hZ : Z.Warmed39 s.vm) (hw : ∀ d ∈ wordsChN, d.before a0 Z = true) : ∀ d ∈ wordsChN, d.before args s = true := fun d hd => by
  have t : ∀ d ∈ wordsChN, (d.onTables && d.keepsFace) = true := by decide +kernel
  exact RoadKit.mv hZ (hw d hd) (t d hd)
/-- **charAt(i) OF A LATIN-1 STRING**, i < n: the char -/
theorem chN {p : Program} {l : Launch} {e : Env} {R : Room} {s : State} {args : Array Value} {below : List Frame} {len W : Nat} {Z : State} {a0 : Array Value} {h : Heap} (hZ : Z.Warmed39 s.vm) (hw : ∀ d ∈ wordsChN, d.before a0 Z = true) {kI : Nat} (wi : (Jvm.Cond.instantiable ST kI).before a0 Z = true)
    {x t : Addr} {kb : ClassId} {cs : List Int32} {N2 z : Int32} {vs : List Value} {fm : Value} {i : Nat} {j : Int32} (E : RoadKit.Exa Z h x ST) (V : RoadKit.Fld Z h x ST "value" "[B" (.ref t)) (C : RoadKit.Fld Z h x ST "coder" "B" (.int 0)) (K : RoadKit.Arv Z h t kb .byte N2 vs (.int 0)) (hc : CodA cs 0 N2 vs) (hb : ∀ c ∈ cs, ¬ c < 0 ∧ ¬ (65535 : Int32) < c)
    (S : RoadKit.Sta Z h ST "COMPACT_STRINGS" "Z" (.int z)) (hz : ¬ z = 0) (F : RoadKit.Sta Z h "jdk/internal/util/Preconditions" "SIOOBE_FORMATTER" "Ljava/util/function/BiFunction;" fm) (rf : fm.isRef = true) (l2 : cs.length ≤ 4000) (hi : i < cs.length) (hj : j = Int32.ofNat i) (hfr : 4 ≤ R.frames) (hlo : W + 53 ≤ R.locals) :
    Back l R p e below s args (⟨"java/lang/String", "charAt", "(I)C"⟩ : MethodName) len W (fun P a => a = #[.ref x, .int j] ∧ P.U.heap = h ∧ P.cells + 0 ≤ R.cells ∧ P.slots + 0 ≤ R.slots)
      (fun P _ v B => ∃ L, (v = some (.int (cs.getD i 0)) ∧ L = [] ∧ B.U.heap = h) ∧ B.locs = P.locs ++ L ∧ B.cells = P.cells + 0 ∧ B.slots = P.slots + 0) := by
  subst hj
  intro m meth c P g ig mk a X hg hsize hdg hW hn hp'
  obtain ⟨rfl, rfl, r1, r2⟩ := hp'
  have al : Z.vm.Alike P.U.vm := hZ.alike.trans X.warmed.alike
  obtain ⟨A, hx⟩ := txt_of wi al E V C K hc hb l2
  obtain ⟨v, B, X', ⟨⟨hv, hh⟩, hl, hk, hs⟩, st⟩ := ChN.pays x t A cs.length (fun j => cs.getD j 0) z fm i (tabChN_of (movedChN hZ hw)) hfr hlo m meth c P g ig mk _ X hg hsize hdg hW hn ⟨r1, r2, rfl, hx, hi, sta_is al S, hz, sta_is al F, rf⟩
  exact ⟨v, B, X', ⟨[], ⟨hv, rfl, hh⟩, hl, hk, hs⟩, st⟩
/-- what backV says of its String, as the contracts of this text ask it: cs's low bytes, coder 0 -/
theorem codOf {cs : List Int32} {n : Nat} (hn : cs.length = n) (hb : ∀ c ∈ cs, ¬ 255 < c) : CodA cs 0 (Int32.ofNat n) ((cs.map lo8).map Value.int) := Or.inl ⟨rfl, by rw [hn], by simp [List.map_map, Function.comp_def], hb⟩
end StrChars.Road
end Jvm.Pilot.@@N@@
namespace Jvm.Pilot.@@N@@
open Jvm Jvm.ClassFile Sem Op Lib Jvm.Free Jvm.Stand Jvm.LawKit Jvm.RoadKit Bundle Jvm.Pilot.@@N@@.Jvm.D
/-! own text: ints, longs and branches in plain integers -/
theorem own_h_eq (x : Int32) : (ifCond.holds .eq x = true) ↔ x.toInt = 0 := by
  simp only [ifCond.holds, beq_iff_eq, ← Int32.toInt_inj, Int32.toInt_zero]
theorem own_h_ne (x : Int32) : (ifCond.holds .ne x = true) ↔ x.toInt ≠ 0 := by
  simp only [ifCond.holds, bne_iff_ne, ne_eq, ← Int32.toInt_inj, Int32.toInt_zero]
theorem own_h_lt (x : Int32) : (ifCond.holds .lt x = true) ↔ x.toInt < 0 := by
  simp only [ifCond.holds, decide_eq_true_eq, Int32.lt_iff_toInt_lt, Int32.toInt_zero]
theorem own_h_ge (x : Int32) : (ifCond.holds .ge x = true) ↔ 0 ≤ x.toInt := by
  simp only [ifCond.holds, decide_eq_true_eq, ge_iff_le, Int32.le_iff_toInt_le, Int32.toInt_zero]
theorem own_h_gt (x : Int32) : (ifCond.holds .gt x = true) ↔ 0 < x.toInt := by
  simp only [ifCond.holds, decide_eq_true_eq, gt_iff_lt, Int32.lt_iff_toInt_lt, Int32.toInt_zero]
theorem own_h_le (x : Int32) : (ifCond.holds .le x = true) ↔ x.toInt ≤ 0 := by
  simp only [ifCond.holds, decide_eq_true_eq, Int32.le_iff_toInt_le, Int32.toInt_zero]
theorem own_c_eq (x y : Int32) : (if_icmp.holds .eq x y = true) ↔ x.toInt = y.toInt := by
  simp only [if_icmp.holds, beq_iff_eq, ← Int32.toInt_inj]
theorem own_c_ne (x y : Int32) : (if_icmp.holds .ne x y = true) ↔ x.toInt ≠ y.toInt := by
  simp only [if_icmp.holds, bne_iff_ne, ne_eq, ← Int32.toInt_inj]
theorem own_c_lt (x y : Int32) : (if_icmp.holds .lt x y = true) ↔ x.toInt < y.toInt := by
  simp only [if_icmp.holds, decide_eq_true_eq, Int32.lt_iff_toInt_lt]
theorem own_c_ge (x y : Int32) : (if_icmp.holds .ge x y = true) ↔ y.toInt ≤ x.toInt := by
  simp only [if_icmp.holds, decide_eq_true_eq, ge_iff_le, Int32.le_iff_toInt_le]
theorem own_c_gt (x y : Int32) : (if_icmp.holds .gt x y = true) ↔ y.toInt < x.toInt := by
  simp only [if_icmp.holds, decide_eq_true_eq, gt_iff_lt, Int32.lt_iff_toInt_lt]
theorem own_c_le (x y : Int32) : (if_icmp.holds .le x y = true) ↔ x.toInt ≤ y.toInt := by
  simp only [if_icmp.holds, decide_eq_true_eq, Int32.le_iff_toInt_le]
theorem own_L (x y : Int64) : (XT.cmpL x y).toInt = if y.toInt < x.toInt then 1 else if x.toInt = y.toInt then 0 else -1 := by
  unfold XT.cmpL
  simp only [Int64.lt_iff_toInt_lt, ← Int64.toInt_inj]
  split
  · rfl
  · split <;> rfl
theorem own_f_of {b : Bool} {p : Prop} (h : (b = true) ↔ p) (hp : ¬ p) : b = false := Bool.eq_false_iff.mpr fun q => hp (h.mp q)
theorem own_irem (x y : Int32) : (x - x / y * y).toInt = x.toInt.tmod y.toInt := by
  have a := (x % y).toInt_lt; have b := (x % y).le_toInt
  rw [Int32.toInt_mod] at a b
  rw [Int32.toInt_sub, Int32.toInt_mul, Int32.toInt_div, Int.bmod_mul_bmod, Int.sub_bmod_bmod, Int.mul_comm, ← Int.tmod_def]
  exact Jvm.Kit.bmod32 b a
theorem own_irem_nn {x y : Int32} (hx : 0 ≤ x.toInt) : (x - x / y * y).toInt = x.toInt % y.toInt := by rw [own_irem, Int.tmod_eq_emod_of_nonneg hx]
theorem own_ne0 {y : Int32} (h : y.toInt ≠ 0) : y ≠ 0 := fun q => h (by rw [q]; rfl)
theorem own_ne0L {y : Int64} (h : y.toInt ≠ 0) : y ≠ 0 := fun q => h (by rw [q]; rfl)
theorem own_mask31 (x : Int32) : 0 ≤ (x &&& 2147483647).toInt ∧ (x &&& 2147483647).toInt < 2147483648 := by
  rw [Jvm.Kit.i32_mask x 2147483647 (k := 31) (by decide) (by decide)]
  omega
theorem own_getD (cs : List Int32) {i : Nat} (h : i < cs.length) : cs.getD i 0 = cs[i] := by
  rw [List.getD_eq_getElem?_getD, List.getElem?_eq_getElem h]; rfl
def own_good (c : Int32) : Bool := !(if_icmp.holds .lt c (48 : Int32)) && if_icmp.holds .le c (57 : Int32)
theorem own_nat {n : Nat} (h : n ≤ 20) : (Int32.ofNat n).toInt = (n : Int) := Int32.toInt_ofNat_of_lt (by omega)
theorem own_one (i : Nat) : Int32.ofNat i + (1 : Int32) = Int32.ofNat (i + 1) := (Int32.ofNat_add i 1).symm
theorem own_notge {i n : Nat} (h : i < n) (hn : n ≤ 20) : if_icmp.holds .ge (Int32.ofNat i) (Int32.ofNat n) = false := by
  refine own_f_of (own_c_ge _ _) ?_
  rw [own_nat hn, own_nat (by omega)]; omega
theorem own_isge {i n : Nat} (h : i = n) : if_icmp.holds .ge (Int32.ofNat i) (Int32.ofNat n) = true := by
  rw [h]; exact (own_c_ge _ _).mpr (Int.le_refl _)
theorem d1_0 : decode method_2_code 0 = .ok (.iload 4, 2) := by decide +kernel
theorem d1_2 : decode method_2_code 2 = .ok (.iload_n 3, 1) := by decide +kernel
theorem d1_3 : decode method_2_code 3 = .ok (.if_icmp .lt 6, 3) := by decide +kernel
theorem d1_6 : decode method_2_code 6 = .ok (.bipush 48, 2) := by decide +kernel
theorem d1_8 : decode method_2_code 8 = .ok (.ireturn, 1) := by decide +kernel
theorem d1_9 : decode method_2_code 9 = .ok (.iload 4, 2) := by decide +kernel
theorem d1_11 : decode method_2_code 11 = .ok (.bipush 19, 2) := by decide +kernel
theorem d1_13 : decode method_2_code 13 = .ok (.if_icmp .ne 9, 3) := by decide +kernel
theorem d1_16 : decode method_2_code 16 = .ok (.bipush 48, 2) := by decide +kernel
theorem d1_18 : decode method_2_code 18 = .ok (.iload_n 2, 1) := by decide +kernel
theorem d1_19 : decode method_2_code 19 = .ok (.iadd, 1) := by decide +kernel
theorem d1_20 : decode method_2_code 20 = .ok (.i2c, 1) := by decide +kernel
theorem d1_21 : decode method_2_code 21 = .ok (.ireturn, 1) := by decide +kernel
theorem d1_22 : decode method_2_code 22 = .ok (.bipush 48, 2) := by decide +kernel
theorem d1_24 : decode method_2_code 24 = .ok (.lload_n 0, 1) := by decide +kernel
theorem d1_25 : decode method_2_code 25 = .ok (.aload 5, 2) := by decide +kernel
theorem d1_27 : decode method_2_code 27 = .ok (.iload 4, 2) := by decide +kernel
theorem d1_29 : decode method_2_code 29 = .ok (.laload, 1) := by decide +kernel
theorem d1_30 : decode method_2_code 30 = .ok (.ldiv, 1) := by decide +kernel
theorem d1_31 : decode method_2_code 31 = .ok (.ldc2_w 7, 3) := by decide +kernel
theorem d1_34 : decode method_2_code 34 = .ok (.lrem, 1) := by decide +kernel
theorem d1_35 : decode method_2_code 35 = .ok (.l2i, 1) := by decide +kernel
theorem d1_36 : decode method_2_code 36 = .ok (.iadd, 1) := by decide +kernel
theorem d1_37 : decode method_2_code 37 = .ok (.i2c, 1) := by decide +kernel
theorem d1_38 : decode method_2_code 38 = .ok (.ireturn, 1) := by decide +kernel
theorem d8_0 : decode prog_22_method_3_code 0 = .ok (.aload_n 0, 1) := by decide +kernel
theorem d8_1 : decode prog_22_method_3_code 1 = .ok (.invokestatic 13, 3) := by decide +kernel
theorem d8_4 : decode prog_22_method_3_code 4 = .ok (.ifCond .ne 5, 3) := by decide +kernel
theorem d8_7 : decode prog_22_method_3_code 7 = .ok (.lconst 0, 1) := by decide +kernel
theorem d8_8 : decode prog_22_method_3_code 8 = .ok (.lreturn, 1) := by decide +kernel
theorem d8_9 : decode prog_22_method_3_code 9 = .ok (.lconst 0, 1) := by decide +kernel
theorem d8_10 : decode prog_22_method_3_code 10 = .ok (.lstore_n 3, 1) := by decide +kernel
theorem d8_11 : decode prog_22_method_3_code 11 = .ok (.iconst 0, 1) := by decide +kernel
theorem d8_12 : decode prog_22_method_3_code 12 = .ok (.istore 5, 2) := by decide +kernel
theorem d8_14 : decode prog_22_method_3_code 14 = .ok (.iload 5, 2) := by decide +kernel
theorem d8_16 : decode prog_22_method_3_code 16 = .ok (.aload_n 0, 1) := by decide +kernel
theorem d8_17 : decode prog_22_method_3_code 17 = .ok (.invokevirtual 26, 3) := by decide +kernel
theorem d8_20 : decode prog_22_method_3_code 20 = .ok (.if_icmp .ge 56, 3) := by decide +kernel
theorem d8_23 : decode prog_22_method_3_code 23 = .ok (.aload_n 0, 1) := by decide +kernel
theorem d8_24 : decode prog_22_method_3_code 24 = .ok (.iload 5, 2) := by decide +kernel
theorem d8_26 : decode prog_22_method_3_code 26 = .ok (.invokevirtual 53, 3) := by decide +kernel
theorem d8_29 : decode prog_22_method_3_code 29 = .ok (.bipush 48, 2) := by decide +kernel
theorem d8_31 : decode prog_22_method_3_code 31 = .ok (.isub, 1) := by decide +kernel
theorem d8_32 : decode prog_22_method_3_code 32 = .ok (.istore 6, 2) := by decide +kernel
theorem d8_34 : decode prog_22_method_3_code 34 = .ok (.lload_n 3, 1) := by decide +kernel
theorem d8_35 : decode prog_22_method_3_code 35 = .ok (.lload_n 1, 1) := by decide +kernel
theorem d8_36 : decode prog_22_method_3_code 36 = .ok (.ldc2_w 57, 3) := by decide +kernel
theorem d8_39 : decode prog_22_method_3_code 39 = .ok (.ldiv, 1) := by decide +kernel
theorem d8_40 : decode prog_22_method_3_code 40 = .ok (.lcmp, 1) := by decide +kernel
theorem d8_41 : decode prog_22_method_3_code 41 = .ok (.ifCond .gt 17, 3) := by decide +kernel
theorem d8_44 : decode prog_22_method_3_code 44 = .ok (.ldc2_w 57, 3) := by decide +kernel
theorem d8_47 : decode prog_22_method_3_code 47 = .ok (.lload_n 3, 1) := by decide +kernel
theorem d8_48 : decode prog_22_method_3_code 48 = .ok (.lmul, 1) := by decide +kernel
theorem d8_49 : decode prog_22_method_3_code 49 = .ok (.lload_n 1, 1) := by decide +kernel
theorem d8_50 : decode prog_22_method_3_code 50 = .ok (.iload 6, 2) := by decide +kernel
theorem d8_52 : decode prog_22_method_3_code 52 = .ok (.i2l, 1) := by decide +kernel
theorem d8_53 : decode prog_22_method_3_code 53 = .ok (.lsub, 1) := by decide +kernel
theorem d8_54 : decode prog_22_method_3_code 54 = .ok (.lcmp, 1) := by decide +kernel
theorem d8_55 : decode prog_22_method_3_code 55 = .ok (.ifCond .le 5, 3) := by decide +kernel
theorem d8_58 : decode prog_22_method_3_code 58 = .ok (.lconst 0, 1) := by decide +kernel
theorem d8_59 : decode prog_22_method_3_code 59 = .ok (.lreturn, 1) := by decide +kernel
theorem d8_60 : decode prog_22_method_3_code 60 = .ok (.ldc2_w 57, 3) := by decide +kernel
theorem d8_63 : decode prog_22_method_3_code 63 = .ok (.lload_n 3, 1) := by decide +kernel
theorem d8_64 : decode prog_22_method_3_code 64 = .ok (.lmul, 1) := by decide +kernel
theorem d8_65 : decode prog_22_method_3_code 65 = .ok (.iload 6, 2) := by decide +kernel
theorem d8_67 : decode prog_22_method_3_code 67 = .ok (.i2l, 1) := by decide +kernel
theorem d8_68 : decode prog_22_method_3_code 68 = .ok (.ladd, 1) := by decide +kernel
theorem d8_69 : decode prog_22_method_3_code 69 = .ok (.lstore_n 3, 1) := by decide +kernel
theorem d8_70 : decode prog_22_method_3_code 70 = .ok (.iinc 5 1, 3) := by decide +kernel
theorem d8_73 : decode prog_22_method_3_code 73 = .ok (.goto (-59), 3) := by decide +kernel
theorem d8_76 : decode prog_22_method_3_code 76 = .ok (.lload_n 3, 1) := by decide +kernel
theorem d8_77 : decode prog_22_method_3_code 77 = .ok (.lreturn, 1) := by decide +kernel
theorem d9_0 : decode prog_22_method_4_code 0 = .ok (.iconst 0, 1) := by decide +kernel
theorem d9_1 : decode prog_22_method_4_code 1 = .ok (.istore_n 1, 1) := by decide +kernel
theorem d9_2 : decode prog_22_method_4_code 2 = .ok (.iload_n 1, 1) := by decide +kernel
theorem d9_3 : decode prog_22_method_4_code 3 = .ok (.aload_n 0, 1) := by decide +kernel
theorem d9_4 : decode prog_22_method_4_code 4 = .ok (.invokevirtual 26, 3) := by decide +kernel
theorem d9_7 : decode prog_22_method_4_code 7 = .ok (.if_icmp .ge 31, 3) := by decide +kernel
theorem d9_10 : decode prog_22_method_4_code 10 = .ok (.aload_n 0, 1) := by decide +kernel
theorem d9_11 : decode prog_22_method_4_code 11 = .ok (.iload_n 1, 1) := by decide +kernel
theorem d9_12 : decode prog_22_method_4_code 12 = .ok (.invokevirtual 53, 3) := by decide +kernel
theorem d9_15 : decode prog_22_method_4_code 15 = .ok (.bipush 48, 2) := by decide +kernel
theorem d9_17 : decode prog_22_method_4_code 17 = .ok (.if_icmp .lt 13, 3) := by decide +kernel
theorem d9_20 : decode prog_22_method_4_code 20 = .ok (.aload_n 0, 1) := by decide +kernel
theorem d9_21 : decode prog_22_method_4_code 21 = .ok (.iload_n 1, 1) := by decide +kernel
theorem d9_22 : decode prog_22_method_4_code 22 = .ok (.invokevirtual 53, 3) := by decide +kernel
theorem d9_25 : decode prog_22_method_4_code 25 = .ok (.bipush 57, 2) := by decide +kernel
theorem d9_27 : decode prog_22_method_4_code 27 = .ok (.if_icmp .le 5, 3) := by decide +kernel
theorem d9_30 : decode prog_22_method_4_code 30 = .ok (.iconst 0, 1) := by decide +kernel
theorem d9_31 : decode prog_22_method_4_code 31 = .ok (.ireturn, 1) := by decide +kernel
theorem d9_32 : decode prog_22_method_4_code 32 = .ok (.iinc 1 1, 3) := by decide +kernel
theorem d9_35 : decode prog_22_method_4_code 35 = .ok (.goto (-33), 3) := by decide +kernel
theorem d9_38 : decode prog_22_method_4_code 38 = .ok (.aload_n 0, 1) := by decide +kernel
theorem d9_39 : decode prog_22_method_4_code 39 = .ok (.invokevirtual 59, 3) := by decide +kernel
theorem d9_42 : decode prog_22_method_4_code 42 = .ok (.ifCond .ne 7, 3) := by decide +kernel
theorem d9_45 : decode prog_22_method_4_code 45 = .ok (.iconst 1, 1) := by decide +kernel
theorem d9_46 : decode prog_22_method_4_code 46 = .ok (.goto 4, 3) := by decide +kernel
theorem d9_49 : decode prog_22_method_4_code 49 = .ok (.iconst 0, 1) := by decide +kernel
theorem d9_50 : decode prog_22_method_4_code 50 = .ok (.ireturn, 1) := by decide +kernel
theorem d18_0 : decode jdk_42_method_139_code 0 = .ok (.getstatic 38, 3) := by decide +kernel
theorem d18_3 : decode jdk_42_method_139_code 3 = .ok (.ifCond .eq 23, 3) := by decide +kernel
theorem d18_6 : decode jdk_42_method_139_code 6 = .ok (.iload_n 0, 1) := by decide +kernel
theorem d18_7 : decode jdk_42_method_139_code 7 = .ok (.invokestatic 1015, 3) := by decide +kernel
theorem d18_10 : decode jdk_42_method_139_code 10 = .ok (.ifCond .eq 16, 3) := by decide +kernel
theorem d18_13 : decode jdk_42_method_139_code 13 = .ok (.new 10, 3) := by decide +kernel
theorem d18_16 : decode jdk_42_method_139_code 16 = .ok (.dup, 1) := by decide +kernel
theorem d18_17 : decode jdk_42_method_139_code 17 = .ok (.iload_n 0, 1) := by decide +kernel
theorem d18_18 : decode jdk_42_method_139_code 18 = .ok (.invokestatic 1018, 3) := by decide +kernel
theorem d18_21 : decode jdk_42_method_139_code 21 = .ok (.iconst 0, 1) := by decide +kernel
theorem d18_22 : decode jdk_42_method_139_code 22 = .ok (.invokespecial 209, 3) := by decide +kernel
theorem d18_25 : decode jdk_42_method_139_code 25 = .ok (.areturn, 1) := by decide +kernel
theorem d18_26 : decode jdk_42_method_139_code 26 = .ok (.new 10, 3) := by decide +kernel
theorem d18_29 : decode jdk_42_method_139_code 29 = .ok (.dup, 1) := by decide +kernel
theorem d18_30 : decode jdk_42_method_139_code 30 = .ok (.iload_n 0, 1) := by decide +kernel
theorem d18_31 : decode jdk_42_method_139_code 31 = .ok (.invokestatic 1021, 3) := by decide +kernel
theorem d18_34 : decode jdk_42_method_139_code 34 = .ok (.iconst 1, 1) := by decide +kernel
theorem d18_35 : decode jdk_42_method_139_code 35 = .ok (.invokespecial 209, 3) := by decide +kernel
theorem d18_38 : decode jdk_42_method_139_code 38 = .ok (.areturn, 1) := by decide +kernel
theorem d19_0 : decode jdk_43_method_3_code 0 = .ok (.iload_n 0, 1) := by decide +kernel
theorem d19_1 : decode jdk_43_method_3_code 1 = .ok (.sipush 255, 3) := by decide +kernel
theorem d19_4 : decode jdk_43_method_3_code 4 = .ok (.if_icmp .gt 7, 3) := by decide +kernel
theorem d19_7 : decode jdk_43_method_3_code 7 = .ok (.iconst 1, 1) := by decide +kernel
theorem d19_8 : decode jdk_43_method_3_code 8 = .ok (.goto 4, 3) := by decide +kernel
theorem d19_11 : decode jdk_43_method_3_code 11 = .ok (.iconst 0, 1) := by decide +kernel
theorem d19_12 : decode jdk_43_method_3_code 12 = .ok (.ireturn, 1) := by decide +kernel
theorem d20_0 : decode jdk_43_method_46_code 0 = .ok (.iconst 1, 1) := by decide +kernel
theorem d20_1 : decode jdk_43_method_46_code 1 = .ok (.newarray .byte, 2) := by decide +kernel
theorem d20_3 : decode jdk_43_method_46_code 3 = .ok (.dup, 1) := by decide +kernel
theorem d20_4 : decode jdk_43_method_46_code 4 = .ok (.iconst 0, 1) := by decide +kernel
theorem d20_5 : decode jdk_43_method_46_code 5 = .ok (.iload_n 0, 1) := by decide +kernel
theorem d20_6 : decode jdk_43_method_46_code 6 = .ok (.i2b, 1) := by decide +kernel
theorem d20_7 : decode jdk_43_method_46_code 7 = .ok (.bastore, 1) := by decide +kernel
theorem d20_8 : decode jdk_43_method_46_code 8 = .ok (.areturn, 1) := by decide +kernel
theorem d21_0 : decode jdk_42_method_151_code 0 = .ok (.aload_n 0, 1) := by decide +kernel
theorem d21_1 : decode jdk_42_method_151_code 1 = .ok (.invokespecial 1, 3) := by decide +kernel
theorem d21_4 : decode jdk_42_method_151_code 4 = .ok (.aload_n 0, 1) := by decide +kernel
theorem d21_5 : decode jdk_42_method_151_code 5 = .ok (.aload_n 1, 1) := by decide +kernel
theorem d21_6 : decode jdk_42_method_151_code 6 = .ok (.putfield 9, 3) := by decide +kernel
theorem d21_9 : decode jdk_42_method_151_code 9 = .ok (.aload_n 0, 1) := by decide +kernel
theorem d21_10 : decode jdk_42_method_151_code 10 = .ok (.iload_n 2, 1) := by decide +kernel
theorem d21_11 : decode jdk_42_method_151_code 11 = .ok (.putfield 15, 3) := by decide +kernel
theorem d21_14 : decode jdk_42_method_151_code 14 = .ok (.return_, 1) := by decide +kernel
theorem pn_0 : plainName "com/example/kontrakt/kontrakt/input/Numerals" = true := by first | (simp [plainName, overriddenIn]; done) | decide +kernel
theorem pn_1 : plainName "com/example/kontrakt/kontrakt/input/NumeralsCountPinLaw" = true := by first | (simp [plainName, overriddenIn]; done) | decide +kernel
theorem pn_2 : plainName "java/lang/StringLatin1" = true := by first | (simp [plainName, overriddenIn]; done) | decide +kernel
theorem pn_3 : plainName "java/lang/String" = true := by first | (simp [plainName, overriddenIn]; done) | decide +kernel
theorem pd_0 : parseMethodDescriptor "()Z" = some ⟨[], some .boolean⟩ := by decide +kernel
theorem pd_1 : parseMethodDescriptor "(Ljava/lang/String;)Z" = some ⟨[(.object "java/lang/String")], some .boolean⟩ := by decide +kernel
theorem pd_2 : parseMethodDescriptor "(C)Z" = some ⟨[.char], some .boolean⟩ := by decide +kernel
theorem pd_3 : parseMethodDescriptor "(C)[B" = some ⟨[.char], some (.array .byte)⟩ := by decide +kernel
theorem pd_4 : parseMethodDescriptor "([BB)V" = some ⟨[(.array .byte), .byte], none⟩ := by decide +kernel
theorem pd_5 : parseMethodDescriptor "(JIII[J)C" = some ⟨[.long, .int, .int, .int, (.array .long)], some .char⟩ := by decide +kernel
theorem pd_6 : parseMethodDescriptor "([C)V" = some ⟨[(.array .char)], none⟩ := by decide +kernel
theorem pd_7 : parseMethodDescriptor "(Ljava/lang/String;J)J" = some ⟨[(.object "java/lang/String"), .long], some .long⟩ := by decide +kernel
theorem pd_8 : parseMethodDescriptor "(C)Ljava/lang/String;" = some ⟨[.char], some (.object "java/lang/String")⟩ := by decide +kernel
theorem pd_9 : parseMethodDescriptor "()I" = some ⟨[], some .int⟩ := by decide +kernel
theorem pd_10 : parseMethodDescriptor "(I)C" = some ⟨[.int], some .char⟩ := by decide +kernel
theorem own_emp0 {n : Nat} (h : 0 < n) : ifCond.holds .ne (if n = 0 then (1 : Int32) else 0) = false := by rw [if_neg (by omega)]; rfl
set_option maxRecDepth 65536 in
set_option maxHeartbeats 40000000 in
theorem isd_A {p : Program} {l : Launch} {e : Env} {R : Room} {s : State} {m : MethodId} {args : Array Value} {below : List Frame} {meth : Method} {c : Code} {locs : List Loc} {cells slots : Nat} {Z : State} {a0 : Array Value} {h0 : Heap} {T0 : State} (x t : Addr) (kb : ClassId) (cs : List Int32) (N2 G1 : Int32) (G3 : Value) (i : Nat) (hi : i < cs.length) (hx : p.tables.exec = Jvm.exec) (hZ : Z.Warmed39 s.vm) (hw : ∀ d ∈ tables_1, d.before a0 Z = true) (hby : c.code = prog_22_method_4_code) (hml : c.maxLocals = 2) (hown : s.vm.findClass "com/example/kontrakt/kontrakt/input/Numerals" = some m.cls) (hln : ∀ d ∈ StrChars.Road.wordsLen, d.before a0 Z = true) (hch : ∀ d ∈ StrChars.Road.wordsChN, d.before a0 Z = true) (hem : ∀ d ∈ StrChars.Road.wordsEmp, d.before a0 Z = true) (E : Exa Z h0 x "java/lang/String") (V : Fld Z h0 x "java/lang/String" "value" "[B" (.ref t)) (C0 : Fld Z h0 x "java/lang/String" "coder" "B" (.int (0 : Int32))) (K : Arv Z h0 t kb .byte N2 ((cs.map (fun c => c.toInt8.toInt32)).map Value.int) (.int (0 : Int32))) (hcd : StrChars.Road.CodA cs 0 N2 ((cs.map (fun c => c.toInt8.toInt32)).map Value.int)) (hbd : ∀ c ∈ cs, ¬ c < 0 ∧ ¬ (65535 : Int32) < c) (S : Sta Z h0 "java/lang/String" "COMPACT_STRINGS" "Z" (.int G1)) (hz : ¬ G1 = 0) (F : Sta Z h0 "jdk/internal/util/Preconditions" "SIOOBE_FORMATTER" "Ljava/util/function/BiFunction;" G3) (rf : G3.isRef = true) (l0 : 0 < cs.length) (l2 : cs.length ≤ 20) (hF : 4 ≤ R.frames) (hL : 64 ≤ R.locals) (hc0 : cells ≤ R.cells) (hs0 : slots ≤ R.slots) (h48 : if_icmp.holds .lt (cs.getD i 0) (48 : Int32) = false) (h57 : if_icmp.holds .le (cs.getD i 0) (57 : Int32) = true)
    (X0 : Stand p l e R s m args below meth c T0 locs cells slots) (e0 : T0.heap = h0) : ∃ T', Stand p l e R s m args below meth c T' locs cells slots ∧ T'.heap = h0 ∧ ∀ target, Steps p.tables e below (T'.setTop (mkF m 2 #[.val (.ref x), .val (.int ((Int32.ofNat i) + (1 : Int32)))] [])) target → Steps p.tables e below (T0.setTop (mkF m 2 #[.val (.ref x), .val (.int (Int32.ofNat i))] [])) target := by
  obtain ⟨cq1, kq1, qa1, qb1, qc1⟩ := isOf hZ e0 E
  obtain ⟨_, _, ⟨T1, L1, k1, n1⟩, -, X1, ⟨Lc1, hQ1, l1, y1, z1⟩, st1⟩ := X0.virtualBack hx (y := (⟨"java/lang/String", "length", "()I"⟩ : MethodName)) (z := (⟨"java/lang/String", "length", "()I"⟩ : MethodName)) hown (mvT hZ (hw _ (List.mem_of_getElem? (i := 64) rfl))) (mvT hZ (hw _ (List.mem_of_getElem? (i := 65) rfl))) (notFace_of_selects (args := #[]) (mvT hZ (hw _ (List.mem_of_getElem? (i := 67) rfl)))) (mvT hZ (hw _ (List.mem_of_getElem? (i := 67) rfl))) (mvT hZ (hw _ (List.mem_of_getElem? (i := 66) rfl))) (by decide) (StrChars.Road.lenW (W := 1) hZ hln (kI := 4) (hw _ (List.mem_of_getElem? (i := 29) rfl)) E V C0 K hcd hbd S hz (Nat.le_trans l2 (by decide)) (by omega) (by omega)) qa1 qc1 (g := (mkF m 4 #[.val (.ref x), .val (.int (Int32.ofNat i))] [(.ref x), (.int (Int32.ofNat i))])) rfl (by rw [hml]; rfl) (Steps.refl _) (argsL := []) (rest := [(.int (Int32.ofNat i))]) (lenOf pd_9 rfl) rfl (by show 2 * 0 + _ ≤ _; exact Nat.le_of_eq rfl) (hb hby d9_4) (fun _ _ => ⟨rfl, e0, hc0, hs0⟩)
  dsimp only [Pt.U, Pt.locs, Pt.cells, Pt.slots] at X1 l1 y1 z1 st1 hQ1
  subst l1 y1 z1
  obtain ⟨rfl, rfl, e1⟩ := hQ1
  try rw [List.append_nil] at X1
  obtain ⟨cq2, kq2, qa2, qb2, qc2⟩ := isOf hZ e1 E
  obtain ⟨_, _, ⟨T2, L2, k2, n2⟩, -, X2, ⟨Lc2, hQ2, l2, y2, z2⟩, st2⟩ := X1.virtualBack hx (y := (⟨"java/lang/String", "charAt", "(I)C"⟩ : MethodName)) (z := (⟨"java/lang/String", "charAt", "(I)C"⟩ : MethodName)) hown (mvT hZ (hw _ (List.mem_of_getElem? (i := 74) rfl))) (mvT hZ (hw _ (List.mem_of_getElem? (i := 75) rfl))) (notFace_of_selects (args := #[]) (mvT hZ (hw _ (List.mem_of_getElem? (i := 77) rfl)))) (mvT hZ (hw _ (List.mem_of_getElem? (i := 77) rfl))) (mvT hZ (hw _ (List.mem_of_getElem? (i := 76) rfl))) (by decide) (StrChars.Road.chN (W := 0) hZ hch (kI := 4) (hw _ (List.mem_of_getElem? (i := 29) rfl)) E V C0 K hcd hbd S hz F rf (Nat.le_trans l2 (by decide)) (i := i) hi (j := (Int32.ofNat i)) rfl (by omega) (by omega)) qa2 qc2 (g := (mkF m 12 #[.val (.ref x), .val (.int (Int32.ofNat i))] [(.int (Int32.ofNat i)), (.ref x)])) rfl (by rw [hml]; rfl) (Steps.refl _) (argsL := [(.int (Int32.ofNat i))]) (rest := []) (lenOf pd_10 rfl) rfl (by show 2 * 0 + _ ≤ _; exact Nat.le_of_eq rfl) (hb hby d9_12) (fun _ _ => ⟨rfl, e1, hc0, hs0⟩)
  dsimp only [Pt.U, Pt.locs, Pt.cells, Pt.slots] at X2 l2 y2 z2 st2 hQ2
  subst l2 y2 z2
  obtain ⟨rfl, rfl, e2⟩ := hQ2
  try rw [List.append_nil] at X2
  obtain ⟨cq3, kq3, qa3, qb3, qc3⟩ := isOf hZ e2 E
  obtain ⟨_, _, ⟨T3, L3, k3, n3⟩, -, X3, ⟨Lc3, hQ3, l3, y3, z3⟩, st3⟩ := X2.virtualBack hx (y := (⟨"java/lang/String", "charAt", "(I)C"⟩ : MethodName)) (z := (⟨"java/lang/String", "charAt", "(I)C"⟩ : MethodName)) hown (mvT hZ (hw _ (List.mem_of_getElem? (i := 74) rfl))) (mvT hZ (hw _ (List.mem_of_getElem? (i := 75) rfl))) (notFace_of_selects (args := #[]) (mvT hZ (hw _ (List.mem_of_getElem? (i := 77) rfl)))) (mvT hZ (hw _ (List.mem_of_getElem? (i := 77) rfl))) (mvT hZ (hw _ (List.mem_of_getElem? (i := 76) rfl))) (by decide) (StrChars.Road.chN (W := 0) hZ hch (kI := 4) (hw _ (List.mem_of_getElem? (i := 29) rfl)) E V C0 K hcd hbd S hz F rf (Nat.le_trans l2 (by decide)) (i := i) hi (j := (Int32.ofNat i)) rfl (by omega) (by omega)) qa3 qc3 (g := (mkF m 22 #[.val (.ref x), .val (.int (Int32.ofNat i))] [(.int (Int32.ofNat i)), (.ref x)])) rfl (by rw [hml]; rfl) (Steps.refl _) (argsL := [(.int (Int32.ofNat i))]) (rest := []) (lenOf pd_10 rfl) rfl (by show 2 * 0 + _ ≤ _; exact Nat.le_of_eq rfl) (hb hby d9_22) (fun _ _ => ⟨rfl, e2, hc0, hs0⟩)
  dsimp only [Pt.U, Pt.locs, Pt.cells, Pt.slots] at X3 l3 y3 z3 st3 hQ3
  subst l3 y3 z3
  obtain ⟨rfl, rfl, e3⟩ := hQ3
  try rw [List.append_nil] at X3
  refine ⟨T3, X3, e3, fun target k => ?_⟩
  show Steps p.tables e below (T0.setTop (mkF m 2 #[.val (.ref x), .val (.int (Int32.ofNat i))] [])) _
  refine XS.iloadN X0.here hx rfl (hb hby d9_2) rfl ?_
  show Steps p.tables e below (T0.setTop (mkF m 3 #[.val (.ref x), .val (.int (Int32.ofNat i))] [(.int (Int32.ofNat i))])) _
  refine XS.aloadN X0.here hx rfl (hb hby d9_3) rfl rfl ?_
  show Steps p.tables e below (T0.setTop (mkF m 4 #[.val (.ref x), .val (.int (Int32.ofNat i))] [(.ref x), (.int (Int32.ofNat i))])) _
  refine st1.trans ?_
  show Steps p.tables e below (T1.setTop (mkF m 7 #[.val (.ref x), .val (.int (Int32.ofNat i))] [(.int (Int32.ofNat cs.length)), (.int (Int32.ofNat i))])) _
  refine XS.icmpNo X1.here hx rfl (hb hby d9_7) rfl (own_notge hi l2) ?_
  show Steps p.tables e below (T1.setTop (mkF m 10 #[.val (.ref x), .val (.int (Int32.ofNat i))] [])) _
  refine XS.aloadN X1.here hx rfl (hb hby d9_10) rfl rfl ?_
  show Steps p.tables e below (T1.setTop (mkF m 11 #[.val (.ref x), .val (.int (Int32.ofNat i))] [(.ref x)])) _
  refine XS.iloadN X1.here hx rfl (hb hby d9_11) rfl ?_
  show Steps p.tables e below (T1.setTop (mkF m 12 #[.val (.ref x), .val (.int (Int32.ofNat i))] [(.int (Int32.ofNat i)), (.ref x)])) _
  refine st2.trans ?_
  show Steps p.tables e below (T2.setTop (mkF m 15 #[.val (.ref x), .val (.int (Int32.ofNat i))] [(.int (cs.getD i 0))])) _
  refine XS.bipush X2.here hx rfl (hb hby d9_15) ?_
  show Steps p.tables e below (T2.setTop (mkF m 17 #[.val (.ref x), .val (.int (Int32.ofNat i))] [(.int (48 : Int32)), (.int (cs.getD i 0))])) _
  refine XS.icmpNo X2.here hx rfl (hb hby d9_17) rfl h48 ?_
  show Steps p.tables e below (T2.setTop (mkF m 20 #[.val (.ref x), .val (.int (Int32.ofNat i))] [])) _
  refine XS.aloadN X2.here hx rfl (hb hby d9_20) rfl rfl ?_
  show Steps p.tables e below (T2.setTop (mkF m 21 #[.val (.ref x), .val (.int (Int32.ofNat i))] [(.ref x)])) _
  refine XS.iloadN X2.here hx rfl (hb hby d9_21) rfl ?_
  show Steps p.tables e below (T2.setTop (mkF m 22 #[.val (.ref x), .val (.int (Int32.ofNat i))] [(.int (Int32.ofNat i)), (.ref x)])) _
  refine st3.trans ?_
  show Steps p.tables e below (T3.setTop (mkF m 25 #[.val (.ref x), .val (.int (Int32.ofNat i))] [(.int (cs.getD i 0))])) _
  refine XS.bipush X3.here hx rfl (hb hby d9_25) ?_
  show Steps p.tables e below (T3.setTop (mkF m 27 #[.val (.ref x), .val (.int (Int32.ofNat i))] [(.int (57 : Int32)), (.int (cs.getD i 0))])) _
  refine XS.icmpYes X3.here hx rfl (pc0 := 27) (pc' := 32) rfl (hb hby d9_27) rfl h57 (by decide) (by decide) ?_
  show Steps p.tables e below (T3.setTop (mkF m 32 #[.val (.ref x), .val (.int (Int32.ofNat i))] [])) _
  refine XS.iinc X3.here hx rfl (hb hby d9_32) rfl (l' := #[.val (.ref x), .val (.int ((Int32.ofNat i) + (1 : Int32)))]) rfl ?_
  show Steps p.tables e below (T3.setTop (mkF m 35 #[.val (.ref x), .val (.int ((Int32.ofNat i) + (1 : Int32)))] [])) _
  refine XS.goto X3.here hx rfl (pc0 := 35) (pc' := 2) rfl (hb hby d9_35) (by decide) (by decide) ?_
  show Steps p.tables e below (T3.setTop (mkF m 2 #[.val (.ref x), .val (.int ((Int32.ofNat i) + (1 : Int32)))] [])) _
  exact k
set_option maxRecDepth 65536 in
set_option maxHeartbeats 40000000 in
theorem isd_B1 {p : Program} {l : Launch} {e : Env} {R : Room} {s : State} {m : MethodId} {args : Array Value} {below : List Frame} {meth : Method} {c : Code} {locs : List Loc} {cells slots : Nat} {Z : State} {a0 : Array Value} {h0 : Heap} {T0 : State} (x t : Addr) (kb : ClassId) (cs : List Int32) (N2 G1 : Int32) (G3 : Value) (i : Nat) (hi : i < cs.length) (hx : p.tables.exec = Jvm.exec) (hZ : Z.Warmed39 s.vm) (hw : ∀ d ∈ tables_1, d.before a0 Z = true) (hby : c.code = prog_22_method_4_code) (hml : c.maxLocals = 2) (hown : s.vm.findClass "com/example/kontrakt/kontrakt/input/Numerals" = some m.cls) (hln : ∀ d ∈ StrChars.Road.wordsLen, d.before a0 Z = true) (hch : ∀ d ∈ StrChars.Road.wordsChN, d.before a0 Z = true) (hem : ∀ d ∈ StrChars.Road.wordsEmp, d.before a0 Z = true) (E : Exa Z h0 x "java/lang/String") (V : Fld Z h0 x "java/lang/String" "value" "[B" (.ref t)) (C0 : Fld Z h0 x "java/lang/String" "coder" "B" (.int (0 : Int32))) (K : Arv Z h0 t kb .byte N2 ((cs.map (fun c => c.toInt8.toInt32)).map Value.int) (.int (0 : Int32))) (hcd : StrChars.Road.CodA cs 0 N2 ((cs.map (fun c => c.toInt8.toInt32)).map Value.int)) (hbd : ∀ c ∈ cs, ¬ c < 0 ∧ ¬ (65535 : Int32) < c) (S : Sta Z h0 "java/lang/String" "COMPACT_STRINGS" "Z" (.int G1)) (hz : ¬ G1 = 0) (F : Sta Z h0 "jdk/internal/util/Preconditions" "SIOOBE_FORMATTER" "Ljava/util/function/BiFunction;" G3) (rf : G3.isRef = true) (l0 : 0 < cs.length) (l2 : cs.length ≤ 20) (hF : 4 ≤ R.frames) (hL : 64 ≤ R.locals) (hc0 : cells ≤ R.cells) (hs0 : slots ≤ R.slots) (h48 : if_icmp.holds .lt (cs.getD i 0) (48 : Int32) = true)
    (X0 : Stand p l e R s m args below meth c T0 locs cells slots) (e0 : T0.heap = h0) : ∃ T', Stand p l e R s m args below meth c T' locs cells slots ∧ T'.heap = h0 ∧ ∀ target, Steps p.tables e below (T'.setTop (mkF m 30 #[.val (.ref x), .val (.int (Int32.ofNat i))] [])) target → Steps p.tables e below (T0.setTop (mkF m 2 #[.val (.ref x), .val (.int (Int32.ofNat i))] [])) target := by
  obtain ⟨cq1, kq1, qa1, qb1, qc1⟩ := isOf hZ e0 E
  obtain ⟨_, _, ⟨T1, L1, k1, n1⟩, -, X1, ⟨Lc1, hQ1, l1, y1, z1⟩, st1⟩ := X0.virtualBack hx (y := (⟨"java/lang/String", "length", "()I"⟩ : MethodName)) (z := (⟨"java/lang/String", "length", "()I"⟩ : MethodName)) hown (mvT hZ (hw _ (List.mem_of_getElem? (i := 64) rfl))) (mvT hZ (hw _ (List.mem_of_getElem? (i := 65) rfl))) (notFace_of_selects (args := #[]) (mvT hZ (hw _ (List.mem_of_getElem? (i := 67) rfl)))) (mvT hZ (hw _ (List.mem_of_getElem? (i := 67) rfl))) (mvT hZ (hw _ (List.mem_of_getElem? (i := 66) rfl))) (by decide) (StrChars.Road.lenW (W := 1) hZ hln (kI := 4) (hw _ (List.mem_of_getElem? (i := 29) rfl)) E V C0 K hcd hbd S hz (Nat.le_trans l2 (by decide)) (by omega) (by omega)) qa1 qc1 (g := (mkF m 4 #[.val (.ref x), .val (.int (Int32.ofNat i))] [(.ref x), (.int (Int32.ofNat i))])) rfl (by rw [hml]; rfl) (Steps.refl _) (argsL := []) (rest := [(.int (Int32.ofNat i))]) (lenOf pd_9 rfl) rfl (by show 2 * 0 + _ ≤ _; exact Nat.le_of_eq rfl) (hb hby d9_4) (fun _ _ => ⟨rfl, e0, hc0, hs0⟩)
  dsimp only [Pt.U, Pt.locs, Pt.cells, Pt.slots] at X1 l1 y1 z1 st1 hQ1
  subst l1 y1 z1
  obtain ⟨rfl, rfl, e1⟩ := hQ1
  try rw [List.append_nil] at X1
  obtain ⟨cq2, kq2, qa2, qb2, qc2⟩ := isOf hZ e1 E
  obtain ⟨_, _, ⟨T2, L2, k2, n2⟩, -, X2, ⟨Lc2, hQ2, l2, y2, z2⟩, st2⟩ := X1.virtualBack hx (y := (⟨"java/lang/String", "charAt", "(I)C"⟩ : MethodName)) (z := (⟨"java/lang/String", "charAt", "(I)C"⟩ : MethodName)) hown (mvT hZ (hw _ (List.mem_of_getElem? (i := 74) rfl))) (mvT hZ (hw _ (List.mem_of_getElem? (i := 75) rfl))) (notFace_of_selects (args := #[]) (mvT hZ (hw _ (List.mem_of_getElem? (i := 77) rfl)))) (mvT hZ (hw _ (List.mem_of_getElem? (i := 77) rfl))) (mvT hZ (hw _ (List.mem_of_getElem? (i := 76) rfl))) (by decide) (StrChars.Road.chN (W := 0) hZ hch (kI := 4) (hw _ (List.mem_of_getElem? (i := 29) rfl)) E V C0 K hcd hbd S hz F rf (Nat.le_trans l2 (by decide)) (i := i) hi (j := (Int32.ofNat i)) rfl (by omega) (by omega)) qa2 qc2 (g := (mkF m 12 #[.val (.ref x), .val (.int (Int32.ofNat i))] [(.int (Int32.ofNat i)), (.ref x)])) rfl (by rw [hml]; rfl) (Steps.refl _) (argsL := [(.int (Int32.ofNat i))]) (rest := []) (lenOf pd_10 rfl) rfl (by show 2 * 0 + _ ≤ _; exact Nat.le_of_eq rfl) (hb hby d9_12) (fun _ _ => ⟨rfl, e1, hc0, hs0⟩)
  dsimp only [Pt.U, Pt.locs, Pt.cells, Pt.slots] at X2 l2 y2 z2 st2 hQ2
  subst l2 y2 z2
  obtain ⟨rfl, rfl, e2⟩ := hQ2
  try rw [List.append_nil] at X2
  refine ⟨T2, X2, e2, fun target k => ?_⟩
  show Steps p.tables e below (T0.setTop (mkF m 2 #[.val (.ref x), .val (.int (Int32.ofNat i))] [])) _
  refine XS.iloadN X0.here hx rfl (hb hby d9_2) rfl ?_
  show Steps p.tables e below (T0.setTop (mkF m 3 #[.val (.ref x), .val (.int (Int32.ofNat i))] [(.int (Int32.ofNat i))])) _
  refine XS.aloadN X0.here hx rfl (hb hby d9_3) rfl rfl ?_
  show Steps p.tables e below (T0.setTop (mkF m 4 #[.val (.ref x), .val (.int (Int32.ofNat i))] [(.ref x), (.int (Int32.ofNat i))])) _
  refine st1.trans ?_
  show Steps p.tables e below (T1.setTop (mkF m 7 #[.val (.ref x), .val (.int (Int32.ofNat i))] [(.int (Int32.ofNat cs.length)), (.int (Int32.ofNat i))])) _
  refine XS.icmpNo X1.here hx rfl (hb hby d9_7) rfl (own_notge hi l2) ?_
  show Steps p.tables e below (T1.setTop (mkF m 10 #[.val (.ref x), .val (.int (Int32.ofNat i))] [])) _
  refine XS.aloadN X1.here hx rfl (hb hby d9_10) rfl rfl ?_
  show Steps p.tables e below (T1.setTop (mkF m 11 #[.val (.ref x), .val (.int (Int32.ofNat i))] [(.ref x)])) _
  refine XS.iloadN X1.here hx rfl (hb hby d9_11) rfl ?_
  show Steps p.tables e below (T1.setTop (mkF m 12 #[.val (.ref x), .val (.int (Int32.ofNat i))] [(.int (Int32.ofNat i)), (.ref x)])) _
  refine st2.trans ?_
  show Steps p.tables e below (T2.setTop (mkF m 15 #[.val (.ref x), .val (.int (Int32.ofNat i))] [(.int (cs.getD i 0))])) _
  refine XS.bipush X2.here hx rfl (hb hby d9_15) ?_
  show Steps p.tables e below (T2.setTop (mkF m 17 #[.val (.ref x), .val (.int (Int32.ofNat i))] [(.int (48 : Int32)), (.int (cs.getD i 0))])) _
  refine XS.icmpYes X2.here hx rfl (pc0 := 17) (pc' := 30) rfl (hb hby d9_17) rfl h48 (by decide) (by decide) ?_
  show Steps p.tables e below (T2.setTop (mkF m 30 #[.val (.ref x), .val (.int (Int32.ofNat i))] [])) _
  exact k
set_option maxRecDepth 65536 in
set_option maxHeartbeats 40000000 in
theorem isd_B2 {p : Program} {l : Launch} {e : Env} {R : Room} {s : State} {m : MethodId} {args : Array Value} {below : List Frame} {meth : Method} {c : Code} {locs : List Loc} {cells slots : Nat} {Z : State} {a0 : Array Value} {h0 : Heap} {T0 : State} (x t : Addr) (kb : ClassId) (cs : List Int32) (N2 G1 : Int32) (G3 : Value) (i : Nat) (hi : i < cs.length) (hx : p.tables.exec = Jvm.exec) (hZ : Z.Warmed39 s.vm) (hw : ∀ d ∈ tables_1, d.before a0 Z = true) (hby : c.code = prog_22_method_4_code) (hml : c.maxLocals = 2) (hown : s.vm.findClass "com/example/kontrakt/kontrakt/input/Numerals" = some m.cls) (hln : ∀ d ∈ StrChars.Road.wordsLen, d.before a0 Z = true) (hch : ∀ d ∈ StrChars.Road.wordsChN, d.before a0 Z = true) (hem : ∀ d ∈ StrChars.Road.wordsEmp, d.before a0 Z = true) (E : Exa Z h0 x "java/lang/String") (V : Fld Z h0 x "java/lang/String" "value" "[B" (.ref t)) (C0 : Fld Z h0 x "java/lang/String" "coder" "B" (.int (0 : Int32))) (K : Arv Z h0 t kb .byte N2 ((cs.map (fun c => c.toInt8.toInt32)).map Value.int) (.int (0 : Int32))) (hcd : StrChars.Road.CodA cs 0 N2 ((cs.map (fun c => c.toInt8.toInt32)).map Value.int)) (hbd : ∀ c ∈ cs, ¬ c < 0 ∧ ¬ (65535 : Int32) < c) (S : Sta Z h0 "java/lang/String" "COMPACT_STRINGS" "Z" (.int G1)) (hz : ¬ G1 = 0) (F : Sta Z h0 "jdk/internal/util/Preconditions" "SIOOBE_FORMATTER" "Ljava/util/function/BiFunction;" G3) (rf : G3.isRef = true) (l0 : 0 < cs.length) (l2 : cs.length ≤ 20) (hF : 4 ≤ R.frames) (hL : 64 ≤ R.locals) (hc0 : cells ≤ R.cells) (hs0 : slots ≤ R.slots) (h48 : if_icmp.holds .lt (cs.getD i 0) (48 : Int32) = false) (h57 : if_icmp.holds .le (cs.getD i 0) (57 : Int32) = false)
    (X0 : Stand p l e R s m args below meth c T0 locs cells slots) (e0 : T0.heap = h0) : ∃ T', Stand p l e R s m args below meth c T' locs cells slots ∧ T'.heap = h0 ∧ ∀ target, Steps p.tables e below (T'.setTop (mkF m 30 #[.val (.ref x), .val (.int (Int32.ofNat i))] [])) target → Steps p.tables e below (T0.setTop (mkF m 2 #[.val (.ref x), .val (.int (Int32.ofNat i))] [])) target := by
  obtain ⟨cq1, kq1, qa1, qb1, qc1⟩ := isOf hZ e0 E
  obtain ⟨_, _, ⟨T1, L1, k1, n1⟩, -, X1, ⟨Lc1, hQ1, l1, y1, z1⟩, st1⟩ := X0.virtualBack hx (y := (⟨"java/lang/String", "length", "()I"⟩ : MethodName)) (z := (⟨"java/lang/String", "length", "()I"⟩ : MethodName)) hown (mvT hZ (hw _ (List.mem_of_getElem? (i := 64) rfl))) (mvT hZ (hw _ (List.mem_of_getElem? (i := 65) rfl))) (notFace_of_selects (args := #[]) (mvT hZ (hw _ (List.mem_of_getElem? (i := 67) rfl)))) (mvT hZ (hw _ (List.mem_of_getElem? (i := 67) rfl))) (mvT hZ (hw _ (List.mem_of_getElem? (i := 66) rfl))) (by decide) (StrChars.Road.lenW (W := 1) hZ hln (kI := 4) (hw _ (List.mem_of_getElem? (i := 29) rfl)) E V C0 K hcd hbd S hz (Nat.le_trans l2 (by decide)) (by omega) (by omega)) qa1 qc1 (g := (mkF m 4 #[.val (.ref x), .val (.int (Int32.ofNat i))] [(.ref x), (.int (Int32.ofNat i))])) rfl (by rw [hml]; rfl) (Steps.refl _) (argsL := []) (rest := [(.int (Int32.ofNat i))]) (lenOf pd_9 rfl) rfl (by show 2 * 0 + _ ≤ _; exact Nat.le_of_eq rfl) (hb hby d9_4) (fun _ _ => ⟨rfl, e0, hc0, hs0⟩)
  dsimp only [Pt.U, Pt.locs, Pt.cells, Pt.slots] at X1 l1 y1 z1 st1 hQ1
  subst l1 y1 z1
  obtain ⟨rfl, rfl, e1⟩ := hQ1
  try rw [List.append_nil] at X1
  obtain ⟨cq2, kq2, qa2, qb2, qc2⟩ := isOf hZ e1 E
  obtain ⟨_, _, ⟨T2, L2, k2, n2⟩, -, X2, ⟨Lc2, hQ2, l2, y2, z2⟩, st2⟩ := X1.virtualBack hx (y := (⟨"java/lang/String", "charAt", "(I)C"⟩ : MethodName)) (z := (⟨"java/lang/String", "charAt", "(I)C"⟩ : MethodName)) hown (mvT hZ (hw _ (List.mem_of_getElem? (i := 74) rfl))) (mvT hZ (hw _ (List.mem_of_getElem? (i := 75) rfl))) (notFace_of_selects (args := #[]) (mvT hZ (hw _ (List.mem_of_getElem? (i := 77) rfl)))) (mvT hZ (hw _ (List.mem_of_getElem? (i := 77) rfl))) (mvT hZ (hw _ (List.mem_of_getElem? (i := 76) rfl))) (by decide) (StrChars.Road.chN (W := 0) hZ hch (kI := 4) (hw _ (List.mem_of_getElem? (i := 29) rfl)) E V C0 K hcd hbd S hz F rf (Nat.le_trans l2 (by decide)) (i := i) hi (j := (Int32.ofNat i)) rfl (by omega) (by omega)) qa2 qc2 (g := (mkF m 12 #[.val (.ref x), .val (.int (Int32.ofNat i))] [(.int (Int32.ofNat i)), (.ref x)])) rfl (by rw [hml]; rfl) (Steps.refl _) (argsL := [(.int (Int32.ofNat i))]) (rest := []) (lenOf pd_10 rfl) rfl (by show 2 * 0 + _ ≤ _; exact Nat.le_of_eq rfl) (hb hby d9_12) (fun _ _ => ⟨rfl, e1, hc0, hs0⟩)
  dsimp only [Pt.U, Pt.locs, Pt.cells, Pt.slots] at X2 l2 y2 z2 st2 hQ2
  subst l2 y2 z2
  obtain ⟨rfl, rfl, e2⟩ := hQ2
  try rw [List.append_nil] at X2
  obtain ⟨cq3, kq3, qa3, qb3, qc3⟩ := isOf hZ e2 E
  obtain ⟨_, _, ⟨T3, L3, k3, n3⟩, -, X3, ⟨Lc3, hQ3, l3, y3, z3⟩, st3⟩ := X2.virtualBack hx (y := (⟨"java/lang/String", "charAt", "(I)C"⟩ : MethodName)) (z := (⟨"java/lang/String", "charAt", "(I)C"⟩ : MethodName)) hown (mvT hZ (hw _ (List.mem_of_getElem? (i := 74) rfl))) (mvT hZ (hw _ (List.mem_of_getElem? (i := 75) rfl))) (notFace_of_selects (args := #[]) (mvT hZ (hw _ (List.mem_of_getElem? (i := 77) rfl)))) (mvT hZ (hw _ (List.mem_of_getElem? (i := 77) rfl))) (mvT hZ (hw _ (List.mem_of_getElem? (i := 76) rfl))) (by decide) (StrChars.Road.chN (W := 0) hZ hch (kI := 4) (hw _ (List.mem_of_getElem? (i := 29) rfl)) E V C0 K hcd hbd S hz F rf (Nat.le_trans l2 (by decide)) (i := i) hi (j := (Int32.ofNat i)) rfl (by omega) (by omega)) qa3 qc3 (g := (mkF m 22 #[.val (.ref x), .val (.int (Int32.ofNat i))] [(.int (Int32.ofNat i)), (.ref x)])) rfl (by rw [hml]; rfl) (Steps.refl _) (argsL := [(.int (Int32.ofNat i))]) (rest := []) (lenOf pd_10 rfl) rfl (by show 2 * 0 + _ ≤ _; exact Nat.le_of_eq rfl) (hb hby d9_22) (fun _ _ => ⟨rfl, e2, hc0, hs0⟩)
  dsimp only [Pt.U, Pt.locs, Pt.cells, Pt.slots] at X3 l3 y3 z3 st3 hQ3
  subst l3 y3 z3
  obtain ⟨rfl, rfl, e3⟩ := hQ3
  try rw [List.append_nil] at X3
  refine ⟨T3, X3, e3, fun target k => ?_⟩
  show Steps p.tables e below (T0.setTop (mkF m 2 #[.val (.ref x), .val (.int (Int32.ofNat i))] [])) _
  refine XS.iloadN X0.here hx rfl (hb hby d9_2) rfl ?_
  show Steps p.tables e below (T0.setTop (mkF m 3 #[.val (.ref x), .val (.int (Int32.ofNat i))] [(.int (Int32.ofNat i))])) _
  refine XS.aloadN X0.here hx rfl (hb hby d9_3) rfl rfl ?_
  show Steps p.tables e below (T0.setTop (mkF m 4 #[.val (.ref x), .val (.int (Int32.ofNat i))] [(.ref x), (.int (Int32.ofNat i))])) _
  refine st1.trans ?_
  show Steps p.tables e below (T1.setTop (mkF m 7 #[.val (.ref x), .val (.int (Int32.ofNat i))] [(.int (Int32.ofNat cs.length)), (.int (Int32.ofNat i))])) _
  refine XS.icmpNo X1.here hx rfl (hb hby d9_7) rfl (own_notge hi l2) ?_
  show Steps p.tables e below (T1.setTop (mkF m 10 #[.val (.ref x), .val (.int (Int32.ofNat i))] [])) _
  refine XS.aloadN X1.here hx rfl (hb hby d9_10) rfl rfl ?_
  show Steps p.tables e below (T1.setTop (mkF m 11 #[.val (.ref x), .val (.int (Int32.ofNat i))] [(.ref x)])) _
  refine XS.iloadN X1.here hx rfl (hb hby d9_11) rfl ?_
  show Steps p.tables e below (T1.setTop (mkF m 12 #[.val (.ref x), .val (.int (Int32.ofNat i))] [(.int (Int32.ofNat i)), (.ref x)])) _
  refine st2.trans ?_
  show Steps p.tables e below (T2.setTop (mkF m 15 #[.val (.ref x), .val (.int (Int32.ofNat i))] [(.int (cs.getD i 0))])) _
  refine XS.bipush X2.here hx rfl (hb hby d9_15) ?_
  show Steps p.tables e below (T2.setTop (mkF m 17 #[.val (.ref x), .val (.int (Int32.ofNat i))] [(.int (48 : Int32)), (.int (cs.getD i 0))])) _
  refine XS.icmpNo X2.here hx rfl (hb hby d9_17) rfl h48 ?_
  show Steps p.tables e below (T2.setTop (mkF m 20 #[.val (.ref x), .val (.int (Int32.ofNat i))] [])) _
  refine XS.aloadN X2.here hx rfl (hb hby d9_20) rfl rfl ?_
  show Steps p.tables e below (T2.setTop (mkF m 21 #[.val (.ref x), .val (.int (Int32.ofNat i))] [(.ref x)])) _
  refine XS.iloadN X2.here hx rfl (hb hby d9_21) rfl ?_
  show Steps p.tables e below (T2.setTop (mkF m 22 #[.val (.ref x), .val (.int (Int32.ofNat i))] [(.int (Int32.ofNat i)), (.ref x)])) _
  refine st3.trans ?_
  show Steps p.tables e below (T3.setTop (mkF m 25 #[.val (.ref x), .val (.int (Int32.ofNat i))] [(.int (cs.getD i 0))])) _
  refine XS.bipush X3.here hx rfl (hb hby d9_25) ?_
  show Steps p.tables e below (T3.setTop (mkF m 27 #[.val (.ref x), .val (.int (Int32.ofNat i))] [(.int (57 : Int32)), (.int (cs.getD i 0))])) _
  refine XS.icmpNo X3.here hx rfl (hb hby d9_27) rfl h57 ?_
  show Steps p.tables e below (T3.setTop (mkF m 30 #[.val (.ref x), .val (.int (Int32.ofNat i))] [])) _
  exact k
set_option maxRecDepth 65536 in
set_option maxHeartbeats 40000000 in
theorem isd_C {p : Program} {l : Launch} {e : Env} {R : Room} {s : State} {m : MethodId} {args : Array Value} {below : List Frame} {meth : Method} {c : Code} {locs : List Loc} {cells slots : Nat} {Z : State} {a0 : Array Value} {h0 : Heap} {T0 : State} (x t : Addr) (kb : ClassId) (cs : List Int32) (N2 G1 : Int32) (G3 : Value) (i : Nat) (hi : i = cs.length) (hx : p.tables.exec = Jvm.exec) (hZ : Z.Warmed39 s.vm) (hw : ∀ d ∈ tables_1, d.before a0 Z = true) (hby : c.code = prog_22_method_4_code) (hml : c.maxLocals = 2) (hown : s.vm.findClass "com/example/kontrakt/kontrakt/input/Numerals" = some m.cls) (hln : ∀ d ∈ StrChars.Road.wordsLen, d.before a0 Z = true) (hch : ∀ d ∈ StrChars.Road.wordsChN, d.before a0 Z = true) (hem : ∀ d ∈ StrChars.Road.wordsEmp, d.before a0 Z = true) (E : Exa Z h0 x "java/lang/String") (V : Fld Z h0 x "java/lang/String" "value" "[B" (.ref t)) (C0 : Fld Z h0 x "java/lang/String" "coder" "B" (.int (0 : Int32))) (K : Arv Z h0 t kb .byte N2 ((cs.map (fun c => c.toInt8.toInt32)).map Value.int) (.int (0 : Int32))) (hcd : StrChars.Road.CodA cs 0 N2 ((cs.map (fun c => c.toInt8.toInt32)).map Value.int)) (hbd : ∀ c ∈ cs, ¬ c < 0 ∧ ¬ (65535 : Int32) < c) (S : Sta Z h0 "java/lang/String" "COMPACT_STRINGS" "Z" (.int G1)) (hz : ¬ G1 = 0) (F : Sta Z h0 "jdk/internal/util/Preconditions" "SIOOBE_FORMATTER" "Ljava/util/function/BiFunction;" G3) (rf : G3.isRef = true) (l0 : 0 < cs.length) (l2 : cs.length ≤ 20) (hF : 4 ≤ R.frames) (hL : 64 ≤ R.locals) (hc0 : cells ≤ R.cells) (hs0 : slots ≤ R.slots) 
    (X0 : Stand p l e R s m args below meth c T0 locs cells slots) (e0 : T0.heap = h0) : ∃ T', Stand p l e R s m args below meth c T' locs cells slots ∧ T'.heap = h0 ∧ ∀ target, Steps p.tables e below (T'.setTop (mkF m 38 #[.val (.ref x), .val (.int (Int32.ofNat i))] [])) target → Steps p.tables e below (T0.setTop (mkF m 2 #[.val (.ref x), .val (.int (Int32.ofNat i))] [])) target := by
  obtain ⟨cq1, kq1, qa1, qb1, qc1⟩ := isOf hZ e0 E
  obtain ⟨_, _, ⟨T1, L1, k1, n1⟩, -, X1, ⟨Lc1, hQ1, l1, y1, z1⟩, st1⟩ := X0.virtualBack hx (y := (⟨"java/lang/String", "length", "()I"⟩ : MethodName)) (z := (⟨"java/lang/String", "length", "()I"⟩ : MethodName)) hown (mvT hZ (hw _ (List.mem_of_getElem? (i := 64) rfl))) (mvT hZ (hw _ (List.mem_of_getElem? (i := 65) rfl))) (notFace_of_selects (args := #[]) (mvT hZ (hw _ (List.mem_of_getElem? (i := 67) rfl)))) (mvT hZ (hw _ (List.mem_of_getElem? (i := 67) rfl))) (mvT hZ (hw _ (List.mem_of_getElem? (i := 66) rfl))) (by decide) (StrChars.Road.lenW (W := 1) hZ hln (kI := 4) (hw _ (List.mem_of_getElem? (i := 29) rfl)) E V C0 K hcd hbd S hz (Nat.le_trans l2 (by decide)) (by omega) (by omega)) qa1 qc1 (g := (mkF m 4 #[.val (.ref x), .val (.int (Int32.ofNat i))] [(.ref x), (.int (Int32.ofNat i))])) rfl (by rw [hml]; rfl) (Steps.refl _) (argsL := []) (rest := [(.int (Int32.ofNat i))]) (lenOf pd_9 rfl) rfl (by show 2 * 0 + _ ≤ _; exact Nat.le_of_eq rfl) (hb hby d9_4) (fun _ _ => ⟨rfl, e0, hc0, hs0⟩)
  dsimp only [Pt.U, Pt.locs, Pt.cells, Pt.slots] at X1 l1 y1 z1 st1 hQ1
  subst l1 y1 z1
  obtain ⟨rfl, rfl, e1⟩ := hQ1
  try rw [List.append_nil] at X1
  refine ⟨T1, X1, e1, fun target k => ?_⟩
  show Steps p.tables e below (T0.setTop (mkF m 2 #[.val (.ref x), .val (.int (Int32.ofNat i))] [])) _
  refine XS.iloadN X0.here hx rfl (hb hby d9_2) rfl ?_
  show Steps p.tables e below (T0.setTop (mkF m 3 #[.val (.ref x), .val (.int (Int32.ofNat i))] [(.int (Int32.ofNat i))])) _
  refine XS.aloadN X0.here hx rfl (hb hby d9_3) rfl rfl ?_
  show Steps p.tables e below (T0.setTop (mkF m 4 #[.val (.ref x), .val (.int (Int32.ofNat i))] [(.ref x), (.int (Int32.ofNat i))])) _
  refine st1.trans ?_
  show Steps p.tables e below (T1.setTop (mkF m 7 #[.val (.ref x), .val (.int (Int32.ofNat i))] [(.int (Int32.ofNat cs.length)), (.int (Int32.ofNat i))])) _
  refine XS.icmpYes X1.here hx rfl (pc0 := 7) (pc' := 38) rfl (hb hby d9_7) rfl (own_isge hi) (by decide) (by decide) ?_
  show Steps p.tables e below (T1.setTop (mkF m 38 #[.val (.ref x), .val (.int (Int32.ofNat i))] [])) _
  exact k
set_option maxRecDepth 65536 in
set_option maxHeartbeats 40000000 in
theorem isd_loop {p : Program} {l : Launch} {e : Env} {R : Room} {s : State} {m : MethodId} {args : Array Value} {below : List Frame} {meth : Method} {c : Code} {locs : List Loc} {cells slots : Nat} {Z : State} {a0 : Array Value} {h0 : Heap} (x t : Addr) (kb : ClassId) (cs : List Int32) (N2 G1 : Int32) (G3 : Value) (hx : p.tables.exec = Jvm.exec) (hZ : Z.Warmed39 s.vm) (hw : ∀ d ∈ tables_1, d.before a0 Z = true) (hby : c.code = prog_22_method_4_code) (hml : c.maxLocals = 2) (hown : s.vm.findClass "com/example/kontrakt/kontrakt/input/Numerals" = some m.cls) (hln : ∀ d ∈ StrChars.Road.wordsLen, d.before a0 Z = true) (hch : ∀ d ∈ StrChars.Road.wordsChN, d.before a0 Z = true) (hem : ∀ d ∈ StrChars.Road.wordsEmp, d.before a0 Z = true) (E : Exa Z h0 x "java/lang/String") (V : Fld Z h0 x "java/lang/String" "value" "[B" (.ref t)) (C0 : Fld Z h0 x "java/lang/String" "coder" "B" (.int (0 : Int32))) (K : Arv Z h0 t kb .byte N2 ((cs.map (fun c => c.toInt8.toInt32)).map Value.int) (.int (0 : Int32))) (hcd : StrChars.Road.CodA cs 0 N2 ((cs.map (fun c => c.toInt8.toInt32)).map Value.int)) (hbd : ∀ c ∈ cs, ¬ c < 0 ∧ ¬ (65535 : Int32) < c) (S : Sta Z h0 "java/lang/String" "COMPACT_STRINGS" "Z" (.int G1)) (hz : ¬ G1 = 0) (F : Sta Z h0 "jdk/internal/util/Preconditions" "SIOOBE_FORMATTER" "Ljava/util/function/BiFunction;" G3) (rf : G3.isRef = true) (l0 : 0 < cs.length) (l2 : cs.length ≤ 20) (hF : 4 ≤ R.frames) (hL : 64 ≤ R.locals) (hc0 : cells ≤ R.cells) (hs0 : slots ≤ R.slots) (k : Nat) :
    ∀ (i : Nat) (T0 : State), i + k = cs.length → Stand p l e R s m args below meth c T0 locs cells slots → T0.heap = h0 → ∃ (T' : State) (j : Int32), Stand p l e R s m args below meth c T' locs cells slots ∧ T'.heap = h0 ∧ ∀ target, Steps p.tables e below (T'.setTop (mkF m (if (cs.drop i).all own_good = true then 38 else 30) #[.val (.ref x), .val (.int j)] [])) target → Steps p.tables e below (T0.setTop (mkF m 2 #[.val (.ref x), .val (.int (Int32.ofNat i))] [])) target := by
  induction k with
  | zero =>
    intro i T0 hk X0 e0
    obtain ⟨T1, X1, e1, st⟩ := isd_C x t kb cs N2 G1 G3 i (by omega) hx hZ hw hby hml hown hln hch hem E V C0 K hcd hbd S hz F rf l0 l2 hF hL hc0 hs0 X0 e0
    refine ⟨T1, Int32.ofNat i, X1, e1, fun target q => st target ?_⟩
    rw [if_pos (by rw [List.drop_eq_nil_of_le (by omega)]; rfl)] at q
    exact q
  | succ k ih =>
    intro i T0 hk X0 e0
    have hi : i < cs.length := by omega
    have eg : cs.getD i 0 = cs[i] := own_getD cs hi
    have ed : (cs.drop i).all own_good = (own_good (cs.getD i 0) && (cs.drop (i + 1)).all own_good) := by rw [eg, List.drop_eq_getElem_cons hi]; rfl
    by_cases h48 : if_icmp.holds .lt (cs.getD i 0) (48 : Int32) = true
    · obtain ⟨T1, X1, e1, st⟩ := isd_B1 x t kb cs N2 G1 G3 i hi hx hZ hw hby hml hown hln hch hem E V C0 K hcd hbd S hz F rf l0 l2 hF hL hc0 hs0 h48 X0 e0
      refine ⟨T1, Int32.ofNat i, X1, e1, fun target q => st target ?_⟩
      have eg0 : own_good (cs.getD i 0) = false := by unfold own_good; rw [h48]; rfl
      rw [if_neg (by rw [ed, eg0]; exact Bool.false_ne_true)] at q
      exact q
    · by_cases h57 : if_icmp.holds .le (cs.getD i 0) (57 : Int32) = true
      · obtain ⟨T1, X1, e1, st⟩ := isd_A x t kb cs N2 G1 G3 i hi hx hZ hw hby hml hown hln hch hem E V C0 K hcd hbd S hz F rf l0 l2 hF hL hc0 hs0 (Bool.eq_false_iff.mpr h48) h57 X0 e0
        obtain ⟨T2, j, X2, e2, st2⟩ := ih (i + 1) T1 (by omega) X1 e1
        refine ⟨T2, j, X2, e2, fun target q => st target ?_⟩
        rw [own_one]
        refine st2 target ?_
        have e3 : (cs.drop i).all own_good = (cs.drop (i + 1)).all own_good := by rw [ed]; unfold own_good; rw [Bool.eq_false_iff.mpr h48, h57]; rfl
        rw [← e3]
        exact q
      · obtain ⟨T1, X1, e1, st⟩ := isd_B2 x t kb cs N2 G1 G3 i hi hx hZ hw hby hml hown hln hch hem E V C0 K hcd hbd S hz F rf l0 l2 hF hL hc0 hs0 (Bool.eq_false_iff.mpr h48) (Bool.eq_false_iff.mpr h57) X0 e0
        refine ⟨T1, Int32.ofNat i, X1, e1, fun target q => st target ?_⟩
        have eg0 : own_good (cs.getD i 0) = false := by unfold own_good; rw [Bool.eq_false_iff.mpr h48, Bool.eq_false_iff.mpr h57]; rfl
        rw [if_neg (by rw [ed, eg0]; exact Bool.false_ne_true)] at q
        exact q
theorem ef_isdG (m : MethodId) (x : Addr) : entryFrame m #[(.ref x)] 2 = (mkF m 0 #[.val (.ref x), .unset] []) := by first | (simp [entryFrame, mkF, argsToLocals, Value.category]; done) | rfl
def Q_isdG (Z : State) (x : Addr) (t : Addr) (kb : ClassId) (cs : List Int32) (N2 : Int32) (G1 : Int32) (G3 : Value) (h0 : Heap) (n0 : Nat) (v : Option Value) (h : Heap) (L : List Loc) : Prop := v = some (.int (1 : Int32)) ∧ Fr n0 L ∧ h = h0
set_option maxRecDepth 65536 in
set_option maxHeartbeats 40000000 in
theorem rm_isdG (l : Launch) (Z : State) (a0 : Array Value) (hw : ∀ d ∈ tables_1, d.before a0 Z = true) (ws : List Jvm.Cond) (x : Addr) (t : Addr) (kb : ClassId) (cs : List Int32) (N2 : Int32) (G1 : Int32) (G3 : Value) (h0 : Heap) (n0 : Nat) (Z0 : n0 ≤ h0.size)  (E : Exa Z h0 x "java/lang/String") (V : Fld Z h0 x "java/lang/String" "value" "[B" (.ref t)) (C0 : Fld Z h0 x "java/lang/String" "coder" "B" (.int (0 : Int32))) (K : Arv Z h0 t kb .byte N2 ((cs.map (fun c => c.toInt8.toInt32)).map Value.int) (.int (0 : Int32))) (hcd : StrChars.Road.CodA cs 0 N2 ((cs.map (fun c => c.toInt8.toInt32)).map Value.int)) (hbd : ∀ c ∈ cs, ¬ c < 0 ∧ ¬ (65535 : Int32) < c) (S : Sta Z h0 "java/lang/String" "COMPACT_STRINGS" "Z" (.int G1)) (hz : ¬ G1 = 0) (F : Sta Z h0 "jdk/internal/util/Preconditions" "SIOOBE_FORMATTER" "Ljava/util/function/BiFunction;" G3) (rf : G3.isRef = true) (l0 : 0 < cs.length) (l2 : cs.length ≤ 20) (hg : cs.all own_good = true)  :
    MetFree l (⟨"com/example/kontrakt/kontrakt/input/Numerals", "isDigits", "(Ljava/lang/String;)Z"⟩ : MethodName) (head1 (Jvm.Cond.code (⟨"com/example/kontrakt/kontrakt/input/Numerals", "isDigits", "(Ljava/lang/String;)Z"⟩ : MethodName) prog_22_method_4_code 2 (some .boolean) :: ws) ({ frames := 4, cells := 0, slots := 0, locals := 64 } : Room)) (fun a U => a = #[(.ref x)] ∧ Z.Warmed39 U.vm ∧ U.heap = h0) (fun _ _ _ _ _ => True) (fun _ U o U' => ∃ v L, o = .returned v ∧ Q_isdG Z x t kb cs N2 G1 G3 h0 n0 v U'.heap L ∧ FrameEnd U o U' L ({ frames := 4, cells := 0, slots := 0, locals := 64 } : Room).cells ({ frames := 4, cells := 0, slots := 0, locals := 64 } : Room).slots) := by
  refine MetFree.of_bodySF (plainFor_of_name pn_0) hisR ?_
  intro p e s m args below meth c s₁ Bd hml0 hP hK
  obtain ⟨rfl, hZ, hh⟩ := hP
  have hx := Bd.exec
  have hby := Bd.bytes
  have hml : c.maxLocals = 2 := hml0
  have hown : s.vm.findClass "com/example/kontrakt/kontrakt/input/Numerals" = some m.cls := findClass_of_methodNamed Bd.named
  have hnm := (name_of_methodNamed Bd.named Bd.method).1
  have X0 : Stand p l e ({ frames := 4, cells := 0, slots := 0, locals := 64 } : Room) s m #[(.ref x)] below meth c s₁ [] 0 0 := Stand.of_body Bd
  have e0 : s₁.heap = h0 := by rw [← hh, Bd.state]; rfl
  have N0 := Fr.nil n0
  have pre0 : ∀ t, Steps p.tables e below (s₁.setTop (mkF m 0 #[.val (.ref x), .unset] [])) t → Steps p.tables e below (s₁.setTop (entryFrame m #[(.ref x)] 2)) t := fun t k => castTop (ef_isdG m x) k
  have hln : ∀ d ∈ StrChars.Road.wordsLen, d.before a0 Z = true := fun d hd => hw d ((by decide +kernel : ∀ d ∈ StrChars.Road.wordsLen, d ∈ tables_1) d hd)
  have hch : ∀ d ∈ StrChars.Road.wordsChN, d.before a0 Z = true := fun d hd => hw d ((by decide +kernel : ∀ d ∈ StrChars.Road.wordsChN, d ∈ tables_1) d hd)
  have hem : ∀ d ∈ StrChars.Road.wordsEmp, d.before a0 Z = true := fun d hd => hw d ((by decide +kernel : ∀ d ∈ StrChars.Road.wordsEmp, d ∈ tables_1) d hd)
  obtain ⟨T1, j1, X1, e1, st1⟩ := isd_loop x t kb cs N2 G1 G3 hx hZ hw hby hml hown hln hch hem E V C0 K hcd hbd S hz F rf l0 l2 (by decide) (by decide) (by decide) (by decide) cs.length 0 s₁ (Nat.zero_add _) X0 e0
  rw [List.drop_zero, if_pos hg] at st1
  obtain ⟨cq2, kq2, qa2, qb2, qc2⟩ := isOf hZ e1 E
  obtain ⟨_, _, ⟨T2, L2, k2, n2⟩, -, X2, ⟨Lc2, hQ2, l2, y2, z2⟩, st2⟩ := X1.virtualBack hx (y := (⟨"java/lang/String", "isEmpty", "()Z"⟩ : MethodName)) (z := (⟨"java/lang/String", "isEmpty", "()Z"⟩ : MethodName)) hown (mvT hZ (hw _ (List.mem_of_getElem? (i := 96) rfl))) (mvT hZ (hw _ (List.mem_of_getElem? (i := 97) rfl))) (notFace_of_selects (args := #[]) (mvT hZ (hw _ (List.mem_of_getElem? (i := 99) rfl)))) (mvT hZ (hw _ (List.mem_of_getElem? (i := 99) rfl))) (mvT hZ (hw _ (List.mem_of_getElem? (i := 98) rfl))) (by decide) (StrChars.Road.empW (W := 0) hZ hem (kI := 4) (hw _ (List.mem_of_getElem? (i := 29) rfl)) E V C0 K hcd hbd (Nat.le_trans l2 (by decide)) (by decide) (by decide)) qa2 qc2 (g := (mkF m 39 #[.val (.ref x), .val (.int j1)] [(.ref x)])) rfl (by rw [hml]; rfl) (Steps.refl _) (argsL := []) (rest := []) (lenOf pd_0 rfl) rfl (by show 2 * 0 + _ ≤ _; exact Nat.le_of_eq rfl) (hb hby d9_39) (fun _ _ => ⟨rfl, e1, (Nat.le_refl _), (Nat.le_refl _)⟩)
  dsimp only [Pt.U, Pt.locs, Pt.cells, Pt.slots] at X2 l2 y2 z2 st2 hQ2
  subst l2 y2 z2
  obtain ⟨rfl, rfl, e2⟩ := hQ2
  try rw [List.append_nil] at X2
  obtain ⟨fs, hr, hrun, hended, hW, hsame⟩ := X2.leave (v := some (.int (1 : Int32))) (fun h => by rw [Bd.returns] at h; cases h)
  refine ⟨_, _, pre0 _ ?_, hrun, hended, _, _, rfl, ?_, ⟨_, rfl⟩, hW, hsame.mono (Nat.le_of_ble_eq_true rfl) (Nat.le_of_ble_eq_true rfl)⟩
  · show Steps p.tables e below (s₁.setTop (mkF m 0 #[.val (.ref x), .unset] [])) _
    refine XS.iconst X0.here hx rfl (hb hby d9_0) ?_
    show Steps p.tables e below (s₁.setTop (mkF m 1 #[.val (.ref x), .unset] [(.int (0 : Int32))])) _
    refine XS.istoreN X0.here hx rfl (hb hby d9_1) rfl (l' := #[.val (.ref x), .val (.int (0 : Int32))]) rfl ?_
    show Steps p.tables e below (s₁.setTop (mkF m 2 #[.val (.ref x), .val (.int (0 : Int32))] [])) _
    refine st1 _ ?_
    show Steps p.tables e below (T1.setTop (mkF m 38 #[.val (.ref x), .val (.int j1)] [])) _
    refine XS.aloadN X1.here hx rfl (hb hby d9_38) rfl rfl ?_
    show Steps p.tables e below (T1.setTop (mkF m 39 #[.val (.ref x), .val (.int j1)] [(.ref x)])) _
    refine st2.trans ?_
    show Steps p.tables e below (T2.setTop (mkF m 42 #[.val (.ref x), .val (.int j1)] [(.int (if cs.length = 0 then 1 else 0))])) _
    refine XS.ifNo X2.here hx rfl (hb hby d9_42) rfl (own_emp0 l0) ?_
    show Steps p.tables e below (T2.setTop (mkF m 45 #[.val (.ref x), .val (.int j1)] [])) _
    refine XS.iconst X2.here hx rfl (hb hby d9_45) ?_
    show Steps p.tables e below (T2.setTop (mkF m 46 #[.val (.ref x), .val (.int j1)] [(.int (1 : Int32))])) _
    refine XS.goto X2.here hx rfl (pc0 := 46) (pc' := 50) rfl (hb hby d9_46) (by decide) (by decide) ?_
    show Steps p.tables e below (T2.setTop (mkF m 50 #[.val (.ref x), .val (.int j1)] [(.int (1 : Int32))])) _
    exact retN X2 hx (t := .boolean) Bd.returns (by simp) (hb hby d9_50) hr
  · show Q_isdG Z x t kb cs N2 G1 G3 h0 n0 _ T2.heap _
    exact ⟨rfl, N0, e2⟩
theorem ef_isdB (m : MethodId) (x : Addr) : entryFrame m #[(.ref x)] 2 = (mkF m 0 #[.val (.ref x), .unset] []) := by first | (simp [entryFrame, mkF, argsToLocals, Value.category]; done) | rfl
def Q_isdB (Z : State) (x : Addr) (t : Addr) (kb : ClassId) (cs : List Int32) (N2 : Int32) (G1 : Int32) (G3 : Value) (h0 : Heap) (n0 : Nat) (v : Option Value) (h : Heap) (L : List Loc) : Prop := v = some (.int (0 : Int32)) ∧ Fr n0 L ∧ h = h0
set_option maxRecDepth 65536 in
set_option maxHeartbeats 40000000 in
theorem rm_isdB (l : Launch) (Z : State) (a0 : Array Value) (hw : ∀ d ∈ tables_1, d.before a0 Z = true) (ws : List Jvm.Cond) (x : Addr) (t : Addr) (kb : ClassId) (cs : List Int32) (N2 : Int32) (G1 : Int32) (G3 : Value) (h0 : Heap) (n0 : Nat) (Z0 : n0 ≤ h0.size)  (E : Exa Z h0 x "java/lang/String") (V : Fld Z h0 x "java/lang/String" "value" "[B" (.ref t)) (C0 : Fld Z h0 x "java/lang/String" "coder" "B" (.int (0 : Int32))) (K : Arv Z h0 t kb .byte N2 ((cs.map (fun c => c.toInt8.toInt32)).map Value.int) (.int (0 : Int32))) (hcd : StrChars.Road.CodA cs 0 N2 ((cs.map (fun c => c.toInt8.toInt32)).map Value.int)) (hbd : ∀ c ∈ cs, ¬ c < 0 ∧ ¬ (65535 : Int32) < c) (S : Sta Z h0 "java/lang/String" "COMPACT_STRINGS" "Z" (.int G1)) (hz : ¬ G1 = 0) (F : Sta Z h0 "jdk/internal/util/Preconditions" "SIOOBE_FORMATTER" "Ljava/util/function/BiFunction;" G3) (rf : G3.isRef = true) (l0 : 0 < cs.length) (l2 : cs.length ≤ 20) (hg : ¬ cs.all own_good = true)  :
    MetFree l (⟨"com/example/kontrakt/kontrakt/input/Numerals", "isDigits", "(Ljava/lang/String;)Z"⟩ : MethodName) (head1 (Jvm.Cond.code (⟨"com/example/kontrakt/kontrakt/input/Numerals", "isDigits", "(Ljava/lang/String;)Z"⟩ : MethodName) prog_22_method_4_code 2 (some .boolean) :: ws) ({ frames := 4, cells := 0, slots := 0, locals := 64 } : Room)) (fun a U => a = #[(.ref x)] ∧ Z.Warmed39 U.vm ∧ U.heap = h0) (fun _ _ _ _ _ => True) (fun _ U o U' => ∃ v L, o = .returned v ∧ Q_isdB Z x t kb cs N2 G1 G3 h0 n0 v U'.heap L ∧ FrameEnd U o U' L ({ frames := 4, cells := 0, slots := 0, locals := 64 } : Room).cells ({ frames := 4, cells := 0, slots := 0, locals := 64 } : Room).slots) := by
  refine MetFree.of_bodySF (plainFor_of_name pn_0) hisR ?_
  intro p e s m args below meth c s₁ Bd hml0 hP hK
  obtain ⟨rfl, hZ, hh⟩ := hP
  have hx := Bd.exec
  have hby := Bd.bytes
  have hml : c.maxLocals = 2 := hml0
  have hown : s.vm.findClass "com/example/kontrakt/kontrakt/input/Numerals" = some m.cls := findClass_of_methodNamed Bd.named
  have hnm := (name_of_methodNamed Bd.named Bd.method).1
  have X0 : Stand p l e ({ frames := 4, cells := 0, slots := 0, locals := 64 } : Room) s m #[(.ref x)] below meth c s₁ [] 0 0 := Stand.of_body Bd
  have e0 : s₁.heap = h0 := by rw [← hh, Bd.state]; rfl
  have N0 := Fr.nil n0
  have pre0 : ∀ t, Steps p.tables e below (s₁.setTop (mkF m 0 #[.val (.ref x), .unset] [])) t → Steps p.tables e below (s₁.setTop (entryFrame m #[(.ref x)] 2)) t := fun t k => castTop (ef_isdB m x) k
  have hln : ∀ d ∈ StrChars.Road.wordsLen, d.before a0 Z = true := fun d hd => hw d ((by decide +kernel : ∀ d ∈ StrChars.Road.wordsLen, d ∈ tables_1) d hd)
  have hch : ∀ d ∈ StrChars.Road.wordsChN, d.before a0 Z = true := fun d hd => hw d ((by decide +kernel : ∀ d ∈ StrChars.Road.wordsChN, d ∈ tables_1) d hd)
  have hem : ∀ d ∈ StrChars.Road.wordsEmp, d.before a0 Z = true := fun d hd => hw d ((by decide +kernel : ∀ d ∈ StrChars.Road.wordsEmp, d ∈ tables_1) d hd)
  obtain ⟨T1, j1, X1, e1, st1⟩ := isd_loop x t kb cs N2 G1 G3 hx hZ hw hby hml hown hln hch hem E V C0 K hcd hbd S hz F rf l0 l2 (by decide) (by decide) (by decide) (by decide) cs.length 0 s₁ (Nat.zero_add _) X0 e0
  rw [List.drop_zero, if_neg hg] at st1
  obtain ⟨fs, hr, hrun, hended, hW, hsame⟩ := X1.leave (v := some (.int (0 : Int32))) (fun h => by rw [Bd.returns] at h; cases h)
  refine ⟨_, _, pre0 _ ?_, hrun, hended, _, _, rfl, ?_, ⟨_, rfl⟩, hW, hsame.mono (Nat.le_of_ble_eq_true rfl) (Nat.le_of_ble_eq_true rfl)⟩
  · show Steps p.tables e below (s₁.setTop (mkF m 0 #[.val (.ref x), .unset] [])) _
    refine XS.iconst X0.here hx rfl (hb hby d9_0) ?_
    show Steps p.tables e below (s₁.setTop (mkF m 1 #[.val (.ref x), .unset] [(.int (0 : Int32))])) _
    refine XS.istoreN X0.here hx rfl (hb hby d9_1) rfl (l' := #[.val (.ref x), .val (.int (0 : Int32))]) rfl ?_
    show Steps p.tables e below (s₁.setTop (mkF m 2 #[.val (.ref x), .val (.int (0 : Int32))] [])) _
    refine st1 _ ?_
    show Steps p.tables e below (T1.setTop (mkF m 30 #[.val (.ref x), .val (.int j1)] [])) _
    refine XS.iconst X1.here hx rfl (hb hby d9_30) ?_
    show Steps p.tables e below (T1.setTop (mkF m 31 #[.val (.ref x), .val (.int j1)] [(.int (0 : Int32))])) _
    exact retN X1 hx (t := .boolean) Bd.returns (by simp) (hb hby d9_31) hr
  · show Q_isdB Z x t kb cs N2 G1 G3 h0 n0 _ T1.heap _
    exact ⟨rfl, N0, e1⟩
def isd_res (cs : List Int32) : Int32 := if (cs.all own_good) = true then (1 : Int32) else (0 : Int32)
def Q_isd (Z : State) (x : Addr) (t : Addr) (kb : ClassId) (cs : List Int32) (N2 : Int32) (G1 : Int32) (G3 : Value) (h0 : Heap) (n0 : Nat) (v : Option Value) (h : Heap) (L : List Loc) : Prop := v = some (.int (isd_res cs)) ∧ Fr n0 L ∧ h = h0
set_option maxRecDepth 65536 in
set_option maxHeartbeats 40000000 in
theorem rm_isd (l : Launch) (Z : State) (a0 : Array Value) (hw : ∀ d ∈ tables_1, d.before a0 Z = true) (ws : List Jvm.Cond) (x : Addr) (t : Addr) (kb : ClassId) (cs : List Int32) (N2 : Int32) (G1 : Int32) (G3 : Value) (h0 : Heap) (n0 : Nat) (Z0 : n0 ≤ h0.size)  (E : Exa Z h0 x "java/lang/String") (V : Fld Z h0 x "java/lang/String" "value" "[B" (.ref t)) (C0 : Fld Z h0 x "java/lang/String" "coder" "B" (.int (0 : Int32))) (K : Arv Z h0 t kb .byte N2 ((cs.map (fun c => c.toInt8.toInt32)).map Value.int) (.int (0 : Int32))) (hcd : StrChars.Road.CodA cs 0 N2 ((cs.map (fun c => c.toInt8.toInt32)).map Value.int)) (hbd : ∀ c ∈ cs, ¬ c < 0 ∧ ¬ (65535 : Int32) < c) (S : Sta Z h0 "java/lang/String" "COMPACT_STRINGS" "Z" (.int G1)) (hz : ¬ G1 = 0) (F : Sta Z h0 "jdk/internal/util/Preconditions" "SIOOBE_FORMATTER" "Ljava/util/function/BiFunction;" G3) (rf : G3.isRef = true) (l0 : 0 < cs.length) (l2 : cs.length ≤ 20)  :
    MetFree l (⟨"com/example/kontrakt/kontrakt/input/Numerals", "isDigits", "(Ljava/lang/String;)Z"⟩ : MethodName) (head1 (Jvm.Cond.code (⟨"com/example/kontrakt/kontrakt/input/Numerals", "isDigits", "(Ljava/lang/String;)Z"⟩ : MethodName) prog_22_method_4_code 2 (some .boolean) :: ws) ({ frames := 4, cells := 0, slots := 0, locals := 64 } : Room)) (fun a U => a = #[(.ref x)] ∧ Z.Warmed39 U.vm ∧ U.heap = h0) (fun _ _ _ _ _ => True) (fun _ U o U' => ∃ v L, o = .returned v ∧ Q_isd Z x t kb cs N2 G1 G3 h0 n0 v U'.heap L ∧ FrameEnd U o U' L ({ frames := 4, cells := 0, slots := 0, locals := 64 } : Room).cells ({ frames := 4, cells := 0, slots := 0, locals := 64 } : Room).slots) := by
  by_cases cc : (cs.all own_good) = true
  · have q : isd_res cs = (1 : Int32) := if_pos cc
    unfold Q_isd; rw [q]
    exact rm_isdG l Z a0 hw ws x t kb cs N2 G1 G3 h0 n0 Z0  E V C0 K hcd hbd S hz F rf l0 l2 cc 
  · have q : isd_res cs = (0 : Int32) := if_neg cc
    unfold Q_isd; rw [q]
    exact rm_isdB l Z a0 hw ws x t kb cs N2 G1 G3 h0 n0 Z0  E V C0 K hcd hbd S hz F rf l0 l2 cc 
theorem own_isd0 {cs : List Int32} (h : ¬ cs.all own_good = true) : ifCond.holds .ne (isd_res cs) = false := by unfold isd_res; rw [if_neg h]; rfl
theorem own_isd1 {cs : List Int32} (h : cs.all own_good = true) : ifCond.holds .ne (isd_res cs) = true := by unfold isd_res; rw [if_pos h]; rfl
def own_dig (c : Int32) : Int64 := Int32.toInt64 (c - (48 : Int32))
def own_cnt (mx : Int64) : List Int32 → Int64 → Option Int64
  | [], a => some a
  | c :: r, a => if ifCond.holds .gt (XT.cmpL a (mx / (10 : Int64))) = true then none else if ifCond.holds .le (XT.cmpL ((10 : Int64) * a) (mx - own_dig c)) = true then own_cnt mx r ((10 : Int64) * a + own_dig c) else none
set_option maxRecDepth 65536 in
set_option maxHeartbeats 40000000 in
theorem cnt_AU {p : Program} {l : Launch} {e : Env} {R : Room} {s : State} {m : MethodId} {args : Array Value} {below : List Frame} {meth : Method} {c : Code} {locs : List Loc} {cells slots : Nat} {Z : State} {a0 : Array Value} {h0 : Heap} {T0 : State} (x t : Addr) (kb : ClassId) (cs : List Int32) (N2 G1 : Int32) (G3 : Value) (mx a : Int64) (d6 : Int32) (i : Nat) (hi : i < cs.length) (hx : p.tables.exec = Jvm.exec) (hZ : Z.Warmed39 s.vm) (hw : ∀ d ∈ tables_1, d.before a0 Z = true) (hby : c.code = prog_22_method_3_code) (hml : c.maxLocals = 7) (hown : s.vm.findClass "com/example/kontrakt/kontrakt/input/Numerals" = some m.cls) (hln : ∀ d ∈ StrChars.Road.wordsLen, d.before a0 Z = true) (hch : ∀ d ∈ StrChars.Road.wordsChN, d.before a0 Z = true) (hem : ∀ d ∈ StrChars.Road.wordsEmp, d.before a0 Z = true) (E : Exa Z h0 x "java/lang/String") (V : Fld Z h0 x "java/lang/String" "value" "[B" (.ref t)) (C0 : Fld Z h0 x "java/lang/String" "coder" "B" (.int (0 : Int32))) (K : Arv Z h0 t kb .byte N2 ((cs.map (fun c => c.toInt8.toInt32)).map Value.int) (.int (0 : Int32))) (hcd : StrChars.Road.CodA cs 0 N2 ((cs.map (fun c => c.toInt8.toInt32)).map Value.int)) (hbd : ∀ c ∈ cs, ¬ c < 0 ∧ ¬ (65535 : Int32) < c) (S : Sta Z h0 "java/lang/String" "COMPACT_STRINGS" "Z" (.int G1)) (hz : ¬ G1 = 0) (F : Sta Z h0 "jdk/internal/util/Preconditions" "SIOOBE_FORMATTER" "Ljava/util/function/BiFunction;" G3) (rf : G3.isRef = true) (l0 : 0 < cs.length) (l2 : cs.length ≤ 20) (hF : 4 ≤ R.frames) (hL : 64 ≤ R.locals) (hc0 : cells ≤ R.cells) (hs0 : slots ≤ R.slots) (h1 : ifCond.holds .gt (XT.cmpL a (mx / (10 : Int64))) = false) (h2 : ifCond.holds .le (XT.cmpL ((10 : Int64) * a) (mx - (Int32.toInt64 ((cs.getD i 0) - (48 : Int32))))) = true)
    (X0 : Stand p l e R s m args below meth c T0 locs cells slots) (e0 : T0.heap = h0) : ∃ T', Stand p l e R s m args below meth c T' locs cells slots ∧ T'.heap = h0 ∧ ∀ target, Steps p.tables e below (T'.setTop (mkF m 14 #[.val (.ref x), .val (.long mx), .second, .val (.long (((10 : Int64) * a) + (Int32.toInt64 ((cs.getD i 0) - (48 : Int32))))), .second, .val (.int ((Int32.ofNat i) + (1 : Int32))), .val (.int ((cs.getD i 0) - (48 : Int32)))] [])) target → Steps p.tables e below (T0.setTop (mkF m 14 #[.val (.ref x), .val (.long mx), .second, .val (.long a), .second, .val (.int (Int32.ofNat i)), .unset] [])) target := by
  obtain ⟨cq1, kq1, qa1, qb1, qc1⟩ := isOf hZ e0 E
  obtain ⟨_, _, ⟨T1, L1, k1, n1⟩, -, X1, ⟨Lc1, hQ1, l1, y1, z1⟩, st1⟩ := X0.virtualBack hx (y := (⟨"java/lang/String", "length", "()I"⟩ : MethodName)) (z := (⟨"java/lang/String", "length", "()I"⟩ : MethodName)) hown (mvT hZ (hw _ (List.mem_of_getElem? (i := 64) rfl))) (mvT hZ (hw _ (List.mem_of_getElem? (i := 65) rfl))) (notFace_of_selects (args := #[]) (mvT hZ (hw _ (List.mem_of_getElem? (i := 67) rfl)))) (mvT hZ (hw _ (List.mem_of_getElem? (i := 67) rfl))) (mvT hZ (hw _ (List.mem_of_getElem? (i := 66) rfl))) (by decide) (StrChars.Road.lenW (W := 1) hZ hln (kI := 4) (hw _ (List.mem_of_getElem? (i := 29) rfl)) E V C0 K hcd hbd S hz (Nat.le_trans l2 (by decide)) (by omega) (by omega)) qa1 qc1 (g := (mkF m 17 #[.val (.ref x), .val (.long mx), .second, .val (.long a), .second, .val (.int (Int32.ofNat i)), .unset] [(.ref x), (.int (Int32.ofNat i))])) rfl (by rw [hml]; rfl) (Steps.refl _) (argsL := []) (rest := [(.int (Int32.ofNat i))]) (lenOf pd_9 rfl) rfl (by show 2 * 0 + _ ≤ _; exact Nat.le_of_eq rfl) (hb hby d8_17) (fun _ _ => ⟨rfl, e0, hc0, hs0⟩)
  dsimp only [Pt.U, Pt.locs, Pt.cells, Pt.slots] at X1 l1 y1 z1 st1 hQ1
  subst l1 y1 z1
  obtain ⟨rfl, rfl, e1⟩ := hQ1
  try rw [List.append_nil] at X1
  obtain ⟨cq2, kq2, qa2, qb2, qc2⟩ := isOf hZ e1 E
  obtain ⟨_, _, ⟨T2, L2, k2, n2⟩, -, X2, ⟨Lc2, hQ2, l2, y2, z2⟩, st2⟩ := X1.virtualBack hx (y := (⟨"java/lang/String", "charAt", "(I)C"⟩ : MethodName)) (z := (⟨"java/lang/String", "charAt", "(I)C"⟩ : MethodName)) hown (mvT hZ (hw _ (List.mem_of_getElem? (i := 74) rfl))) (mvT hZ (hw _ (List.mem_of_getElem? (i := 75) rfl))) (notFace_of_selects (args := #[]) (mvT hZ (hw _ (List.mem_of_getElem? (i := 77) rfl)))) (mvT hZ (hw _ (List.mem_of_getElem? (i := 77) rfl))) (mvT hZ (hw _ (List.mem_of_getElem? (i := 76) rfl))) (by decide) (StrChars.Road.chN (W := 0) hZ hch (kI := 4) (hw _ (List.mem_of_getElem? (i := 29) rfl)) E V C0 K hcd hbd S hz F rf (Nat.le_trans l2 (by decide)) (i := i) hi (j := (Int32.ofNat i)) rfl (by omega) (by omega)) qa2 qc2 (g := (mkF m 26 #[.val (.ref x), .val (.long mx), .second, .val (.long a), .second, .val (.int (Int32.ofNat i)), .unset] [(.int (Int32.ofNat i)), (.ref x)])) rfl (by rw [hml]; rfl) (Steps.refl _) (argsL := [(.int (Int32.ofNat i))]) (rest := []) (lenOf pd_10 rfl) rfl (by show 2 * 0 + _ ≤ _; exact Nat.le_of_eq rfl) (hb hby d8_26) (fun _ _ => ⟨rfl, e1, hc0, hs0⟩)
  dsimp only [Pt.U, Pt.locs, Pt.cells, Pt.slots] at X2 l2 y2 z2 st2 hQ2
  subst l2 y2 z2
  obtain ⟨rfl, rfl, e2⟩ := hQ2
  try rw [List.append_nil] at X2
  refine ⟨T2, X2, e2, fun target k => ?_⟩
  show Steps p.tables e below (T0.setTop (mkF m 14 #[.val (.ref x), .val (.long mx), .second, .val (.long a), .second, .val (.int (Int32.ofNat i)), .unset] [])) _
  refine XS.iload X0.here hx rfl (hb hby d8_14) rfl ?_
  show Steps p.tables e below (T0.setTop (mkF m 16 #[.val (.ref x), .val (.long mx), .second, .val (.long a), .second, .val (.int (Int32.ofNat i)), .unset] [(.int (Int32.ofNat i))])) _
  refine XS.aloadN X0.here hx rfl (hb hby d8_16) rfl rfl ?_
  show Steps p.tables e below (T0.setTop (mkF m 17 #[.val (.ref x), .val (.long mx), .second, .val (.long a), .second, .val (.int (Int32.ofNat i)), .unset] [(.ref x), (.int (Int32.ofNat i))])) _
  refine st1.trans ?_
  show Steps p.tables e below (T1.setTop (mkF m 20 #[.val (.ref x), .val (.long mx), .second, .val (.long a), .second, .val (.int (Int32.ofNat i)), .unset] [(.int (Int32.ofNat cs.length)), (.int (Int32.ofNat i))])) _
  refine XS.icmpNo X1.here hx rfl (hb hby d8_20) rfl (own_notge hi l2) ?_
  show Steps p.tables e below (T1.setTop (mkF m 23 #[.val (.ref x), .val (.long mx), .second, .val (.long a), .second, .val (.int (Int32.ofNat i)), .unset] [])) _
  refine XS.aloadN X1.here hx rfl (hb hby d8_23) rfl rfl ?_
  show Steps p.tables e below (T1.setTop (mkF m 24 #[.val (.ref x), .val (.long mx), .second, .val (.long a), .second, .val (.int (Int32.ofNat i)), .unset] [(.ref x)])) _
  refine XS.iload X1.here hx rfl (hb hby d8_24) rfl ?_
  show Steps p.tables e below (T1.setTop (mkF m 26 #[.val (.ref x), .val (.long mx), .second, .val (.long a), .second, .val (.int (Int32.ofNat i)), .unset] [(.int (Int32.ofNat i)), (.ref x)])) _
  refine st2.trans ?_
  show Steps p.tables e below (T2.setTop (mkF m 29 #[.val (.ref x), .val (.long mx), .second, .val (.long a), .second, .val (.int (Int32.ofNat i)), .unset] [(.int (cs.getD i 0))])) _
  refine XS.bipush X2.here hx rfl (hb hby d8_29) ?_
  show Steps p.tables e below (T2.setTop (mkF m 31 #[.val (.ref x), .val (.long mx), .second, .val (.long a), .second, .val (.int (Int32.ofNat i)), .unset] [(.int (48 : Int32)), (.int (cs.getD i 0))])) _
  refine XS.isub X2.here hx rfl (hb hby d8_31) rfl ?_
  show Steps p.tables e below (T2.setTop (mkF m 32 #[.val (.ref x), .val (.long mx), .second, .val (.long a), .second, .val (.int (Int32.ofNat i)), .unset] [(.int ((cs.getD i 0) - (48 : Int32)))])) _
  refine XS.istore X2.here hx rfl (hb hby d8_32) rfl (l' := #[.val (.ref x), .val (.long mx), .second, .val (.long a), .second, .val (.int (Int32.ofNat i)), .val (.int ((cs.getD i 0) - (48 : Int32)))]) rfl ?_
  show Steps p.tables e below (T2.setTop (mkF m 34 #[.val (.ref x), .val (.long mx), .second, .val (.long a), .second, .val (.int (Int32.ofNat i)), .val (.int ((cs.getD i 0) - (48 : Int32)))] [])) _
  refine XT.lloadN X2.here hx rfl (hb hby d8_34) rfl ?_
  show Steps p.tables e below (T2.setTop (mkF m 35 #[.val (.ref x), .val (.long mx), .second, .val (.long a), .second, .val (.int (Int32.ofNat i)), .val (.int ((cs.getD i 0) - (48 : Int32)))] [(.long a)])) _
  refine XT.lloadN X2.here hx rfl (hb hby d8_35) rfl ?_
  show Steps p.tables e below (T2.setTop (mkF m 36 #[.val (.ref x), .val (.long mx), .second, .val (.long a), .second, .val (.int (Int32.ofNat i)), .val (.int ((cs.getD i 0) - (48 : Int32)))] [(.long mx), (.long a)])) _
  refine X2.ldc2J hx hown (mvT hZ (hw _ (List.mem_of_getElem? (i := 101) rfl))) (g := (mkF m 36 #[.val (.ref x), .val (.long mx), .second, .val (.long a), .second, .val (.int (Int32.ofNat i)), .val (.int ((cs.getD i 0) - (48 : Int32)))] [(.long mx), (.long a)])) rfl (hb hby d8_36) ?_
  show Steps p.tables e below (T2.setTop (mkF m 39 #[.val (.ref x), .val (.long mx), .second, .val (.long a), .second, .val (.int (Int32.ofNat i)), .val (.int ((cs.getD i 0) - (48 : Int32)))] [(.long (10 : Int64)), (.long mx), (.long a)])) _
  refine XT.ldiv X2.here hx rfl (hb hby d8_39) rfl (by decide) ?_
  show Steps p.tables e below (T2.setTop (mkF m 40 #[.val (.ref x), .val (.long mx), .second, .val (.long a), .second, .val (.int (Int32.ofNat i)), .val (.int ((cs.getD i 0) - (48 : Int32)))] [(.long (mx / (10 : Int64))), (.long a)])) _
  refine XT.lcmp X2.here hx rfl (hb hby d8_40) rfl ?_
  show Steps p.tables e below (T2.setTop (mkF m 41 #[.val (.ref x), .val (.long mx), .second, .val (.long a), .second, .val (.int (Int32.ofNat i)), .val (.int ((cs.getD i 0) - (48 : Int32)))] [(.int (XT.cmpL a (mx / (10 : Int64))))])) _
  refine XS.ifNo X2.here hx rfl (hb hby d8_41) rfl h1 ?_
  show Steps p.tables e below (T2.setTop (mkF m 44 #[.val (.ref x), .val (.long mx), .second, .val (.long a), .second, .val (.int (Int32.ofNat i)), .val (.int ((cs.getD i 0) - (48 : Int32)))] [])) _
  refine X2.ldc2J hx hown (mvT hZ (hw _ (List.mem_of_getElem? (i := 101) rfl))) (g := (mkF m 44 #[.val (.ref x), .val (.long mx), .second, .val (.long a), .second, .val (.int (Int32.ofNat i)), .val (.int ((cs.getD i 0) - (48 : Int32)))] [])) rfl (hb hby d8_44) ?_
  show Steps p.tables e below (T2.setTop (mkF m 47 #[.val (.ref x), .val (.long mx), .second, .val (.long a), .second, .val (.int (Int32.ofNat i)), .val (.int ((cs.getD i 0) - (48 : Int32)))] [(.long (10 : Int64))])) _
  refine XT.lloadN X2.here hx rfl (hb hby d8_47) rfl ?_
  show Steps p.tables e below (T2.setTop (mkF m 48 #[.val (.ref x), .val (.long mx), .second, .val (.long a), .second, .val (.int (Int32.ofNat i)), .val (.int ((cs.getD i 0) - (48 : Int32)))] [(.long a), (.long (10 : Int64))])) _
  refine XT.lmul X2.here hx rfl (hb hby d8_48) rfl ?_
  show Steps p.tables e below (T2.setTop (mkF m 49 #[.val (.ref x), .val (.long mx), .second, .val (.long a), .second, .val (.int (Int32.ofNat i)), .val (.int ((cs.getD i 0) - (48 : Int32)))] [(.long ((10 : Int64) * a))])) _
  refine XT.lloadN X2.here hx rfl (hb hby d8_49) rfl ?_
  show Steps p.tables e below (T2.setTop (mkF m 50 #[.val (.ref x), .val (.long mx), .second, .val (.long a), .second, .val (.int (Int32.ofNat i)), .val (.int ((cs.getD i 0) - (48 : Int32)))] [(.long mx), (.long ((10 : Int64) * a))])) _
  refine XS.iload X2.here hx rfl (hb hby d8_50) rfl ?_
  show Steps p.tables e below (T2.setTop (mkF m 52 #[.val (.ref x), .val (.long mx), .second, .val (.long a), .second, .val (.int (Int32.ofNat i)), .val (.int ((cs.getD i 0) - (48 : Int32)))] [(.int ((cs.getD i 0) - (48 : Int32))), (.long mx), (.long ((10 : Int64) * a))])) _
  refine XT.i2l X2.here hx rfl (hb hby d8_52) rfl ?_
  show Steps p.tables e below (T2.setTop (mkF m 53 #[.val (.ref x), .val (.long mx), .second, .val (.long a), .second, .val (.int (Int32.ofNat i)), .val (.int ((cs.getD i 0) - (48 : Int32)))] [(.long (Int32.toInt64 ((cs.getD i 0) - (48 : Int32)))), (.long mx), (.long ((10 : Int64) * a))])) _
  refine XT.lsub X2.here hx rfl (hb hby d8_53) rfl ?_
  show Steps p.tables e below (T2.setTop (mkF m 54 #[.val (.ref x), .val (.long mx), .second, .val (.long a), .second, .val (.int (Int32.ofNat i)), .val (.int ((cs.getD i 0) - (48 : Int32)))] [(.long (mx - (Int32.toInt64 ((cs.getD i 0) - (48 : Int32))))), (.long ((10 : Int64) * a))])) _
  refine XT.lcmp X2.here hx rfl (hb hby d8_54) rfl ?_
  show Steps p.tables e below (T2.setTop (mkF m 55 #[.val (.ref x), .val (.long mx), .second, .val (.long a), .second, .val (.int (Int32.ofNat i)), .val (.int ((cs.getD i 0) - (48 : Int32)))] [(.int (XT.cmpL ((10 : Int64) * a) (mx - (Int32.toInt64 ((cs.getD i 0) - (48 : Int32))))))])) _
  refine XS.ifYes X2.here hx rfl (pc0 := 55) (pc' := 60) rfl (hb hby d8_55) rfl h2 (by decide) (by decide) ?_
  show Steps p.tables e below (T2.setTop (mkF m 60 #[.val (.ref x), .val (.long mx), .second, .val (.long a), .second, .val (.int (Int32.ofNat i)), .val (.int ((cs.getD i 0) - (48 : Int32)))] [])) _
  refine X2.ldc2J hx hown (mvT hZ (hw _ (List.mem_of_getElem? (i := 101) rfl))) (g := (mkF m 60 #[.val (.ref x), .val (.long mx), .second, .val (.long a), .second, .val (.int (Int32.ofNat i)), .val (.int ((cs.getD i 0) - (48 : Int32)))] [])) rfl (hb hby d8_60) ?_
  show Steps p.tables e below (T2.setTop (mkF m 63 #[.val (.ref x), .val (.long mx), .second, .val (.long a), .second, .val (.int (Int32.ofNat i)), .val (.int ((cs.getD i 0) - (48 : Int32)))] [(.long (10 : Int64))])) _
  refine XT.lloadN X2.here hx rfl (hb hby d8_63) rfl ?_
  show Steps p.tables e below (T2.setTop (mkF m 64 #[.val (.ref x), .val (.long mx), .second, .val (.long a), .second, .val (.int (Int32.ofNat i)), .val (.int ((cs.getD i 0) - (48 : Int32)))] [(.long a), (.long (10 : Int64))])) _
  refine XT.lmul X2.here hx rfl (hb hby d8_64) rfl ?_
  show Steps p.tables e below (T2.setTop (mkF m 65 #[.val (.ref x), .val (.long mx), .second, .val (.long a), .second, .val (.int (Int32.ofNat i)), .val (.int ((cs.getD i 0) - (48 : Int32)))] [(.long ((10 : Int64) * a))])) _
  refine XS.iload X2.here hx rfl (hb hby d8_65) rfl ?_
  show Steps p.tables e below (T2.setTop (mkF m 67 #[.val (.ref x), .val (.long mx), .second, .val (.long a), .second, .val (.int (Int32.ofNat i)), .val (.int ((cs.getD i 0) - (48 : Int32)))] [(.int ((cs.getD i 0) - (48 : Int32))), (.long ((10 : Int64) * a))])) _
  refine XT.i2l X2.here hx rfl (hb hby d8_67) rfl ?_
  show Steps p.tables e below (T2.setTop (mkF m 68 #[.val (.ref x), .val (.long mx), .second, .val (.long a), .second, .val (.int (Int32.ofNat i)), .val (.int ((cs.getD i 0) - (48 : Int32)))] [(.long (Int32.toInt64 ((cs.getD i 0) - (48 : Int32)))), (.long ((10 : Int64) * a))])) _
  refine XT.ladd X2.here hx rfl (hb hby d8_68) rfl ?_
  show Steps p.tables e below (T2.setTop (mkF m 69 #[.val (.ref x), .val (.long mx), .second, .val (.long a), .second, .val (.int (Int32.ofNat i)), .val (.int ((cs.getD i 0) - (48 : Int32)))] [(.long (((10 : Int64) * a) + (Int32.toInt64 ((cs.getD i 0) - (48 : Int32)))))])) _
  refine XT.lstoreN X2.here hx rfl (hb hby d8_69) rfl (l' := #[.val (.ref x), .val (.long mx), .second, .val (.long (((10 : Int64) * a) + (Int32.toInt64 ((cs.getD i 0) - (48 : Int32))))), .second, .val (.int (Int32.ofNat i)), .val (.int ((cs.getD i 0) - (48 : Int32)))]) rfl ?_
  show Steps p.tables e below (T2.setTop (mkF m 70 #[.val (.ref x), .val (.long mx), .second, .val (.long (((10 : Int64) * a) + (Int32.toInt64 ((cs.getD i 0) - (48 : Int32))))), .second, .val (.int (Int32.ofNat i)), .val (.int ((cs.getD i 0) - (48 : Int32)))] [])) _
  refine XS.iinc X2.here hx rfl (hb hby d8_70) rfl (l' := #[.val (.ref x), .val (.long mx), .second, .val (.long (((10 : Int64) * a) + (Int32.toInt64 ((cs.getD i 0) - (48 : Int32))))), .second, .val (.int ((Int32.ofNat i) + (1 : Int32))), .val (.int ((cs.getD i 0) - (48 : Int32)))]) rfl ?_
  show Steps p.tables e below (T2.setTop (mkF m 73 #[.val (.ref x), .val (.long mx), .second, .val (.long (((10 : Int64) * a) + (Int32.toInt64 ((cs.getD i 0) - (48 : Int32))))), .second, .val (.int ((Int32.ofNat i) + (1 : Int32))), .val (.int ((cs.getD i 0) - (48 : Int32)))] [])) _
  refine XS.goto X2.here hx rfl (pc0 := 73) (pc' := 14) rfl (hb hby d8_73) (by decide) (by decide) ?_
  show Steps p.tables e below (T2.setTop (mkF m 14 #[.val (.ref x), .val (.long mx), .second, .val (.long (((10 : Int64) * a) + (Int32.toInt64 ((cs.getD i 0) - (48 : Int32))))), .second, .val (.int ((Int32.ofNat i) + (1 : Int32))), .val (.int ((cs.getD i 0) - (48 : Int32)))] [])) _
  exact k
set_option maxRecDepth 65536 in
set_option maxHeartbeats 40000000 in
theorem cnt_BU {p : Program} {l : Launch} {e : Env} {R : Room} {s : State} {m : MethodId} {args : Array Value} {below : List Frame} {meth : Method} {c : Code} {locs : List Loc} {cells slots : Nat} {Z : State} {a0 : Array Value} {h0 : Heap} {T0 : State} (x t : Addr) (kb : ClassId) (cs : List Int32) (N2 G1 : Int32) (G3 : Value) (mx a : Int64) (d6 : Int32) (i : Nat) (hi : i < cs.length) (hx : p.tables.exec = Jvm.exec) (hZ : Z.Warmed39 s.vm) (hw : ∀ d ∈ tables_1, d.before a0 Z = true) (hby : c.code = prog_22_method_3_code) (hml : c.maxLocals = 7) (hown : s.vm.findClass "com/example/kontrakt/kontrakt/input/Numerals" = some m.cls) (hln : ∀ d ∈ StrChars.Road.wordsLen, d.before a0 Z = true) (hch : ∀ d ∈ StrChars.Road.wordsChN, d.before a0 Z = true) (hem : ∀ d ∈ StrChars.Road.wordsEmp, d.before a0 Z = true) (E : Exa Z h0 x "java/lang/String") (V : Fld Z h0 x "java/lang/String" "value" "[B" (.ref t)) (C0 : Fld Z h0 x "java/lang/String" "coder" "B" (.int (0 : Int32))) (K : Arv Z h0 t kb .byte N2 ((cs.map (fun c => c.toInt8.toInt32)).map Value.int) (.int (0 : Int32))) (hcd : StrChars.Road.CodA cs 0 N2 ((cs.map (fun c => c.toInt8.toInt32)).map Value.int)) (hbd : ∀ c ∈ cs, ¬ c < 0 ∧ ¬ (65535 : Int32) < c) (S : Sta Z h0 "java/lang/String" "COMPACT_STRINGS" "Z" (.int G1)) (hz : ¬ G1 = 0) (F : Sta Z h0 "jdk/internal/util/Preconditions" "SIOOBE_FORMATTER" "Ljava/util/function/BiFunction;" G3) (rf : G3.isRef = true) (l0 : 0 < cs.length) (l2 : cs.length ≤ 20) (hF : 4 ≤ R.frames) (hL : 64 ≤ R.locals) (hc0 : cells ≤ R.cells) (hs0 : slots ≤ R.slots) (h1 : ifCond.holds .gt (XT.cmpL a (mx / (10 : Int64))) = true)
    (X0 : Stand p l e R s m args below meth c T0 locs cells slots) (e0 : T0.heap = h0) : ∃ T', Stand p l e R s m args below meth c T' locs cells slots ∧ T'.heap = h0 ∧ ∀ target, Steps p.tables e below (T'.setTop (mkF m 58 #[.val (.ref x), .val (.long mx), .second, .val (.long a), .second, .val (.int (Int32.ofNat i)), .val (.int ((cs.getD i 0) - (48 : Int32)))] [])) target → Steps p.tables e below (T0.setTop (mkF m 14 #[.val (.ref x), .val (.long mx), .second, .val (.long a), .second, .val (.int (Int32.ofNat i)), .unset] [])) target := by
  obtain ⟨cq1, kq1, qa1, qb1, qc1⟩ := isOf hZ e0 E
  obtain ⟨_, _, ⟨T1, L1, k1, n1⟩, -, X1, ⟨Lc1, hQ1, l1, y1, z1⟩, st1⟩ := X0.virtualBack hx (y := (⟨"java/lang/String", "length", "()I"⟩ : MethodName)) (z := (⟨"java/lang/String", "length", "()I"⟩ : MethodName)) hown (mvT hZ (hw _ (List.mem_of_getElem? (i := 64) rfl))) (mvT hZ (hw _ (List.mem_of_getElem? (i := 65) rfl))) (notFace_of_selects (args := #[]) (mvT hZ (hw _ (List.mem_of_getElem? (i := 67) rfl)))) (mvT hZ (hw _ (List.mem_of_getElem? (i := 67) rfl))) (mvT hZ (hw _ (List.mem_of_getElem? (i := 66) rfl))) (by decide) (StrChars.Road.lenW (W := 1) hZ hln (kI := 4) (hw _ (List.mem_of_getElem? (i := 29) rfl)) E V C0 K hcd hbd S hz (Nat.le_trans l2 (by decide)) (by omega) (by omega)) qa1 qc1 (g := (mkF m 17 #[.val (.ref x), .val (.long mx), .second, .val (.long a), .second, .val (.int (Int32.ofNat i)), .unset] [(.ref x), (.int (Int32.ofNat i))])) rfl (by rw [hml]; rfl) (Steps.refl _) (argsL := []) (rest := [(.int (Int32.ofNat i))]) (lenOf pd_9 rfl) rfl (by show 2 * 0 + _ ≤ _; exact Nat.le_of_eq rfl) (hb hby d8_17) (fun _ _ => ⟨rfl, e0, hc0, hs0⟩)
  dsimp only [Pt.U, Pt.locs, Pt.cells, Pt.slots] at X1 l1 y1 z1 st1 hQ1
  subst l1 y1 z1
  obtain ⟨rfl, rfl, e1⟩ := hQ1
  try rw [List.append_nil] at X1
  obtain ⟨cq2, kq2, qa2, qb2, qc2⟩ := isOf hZ e1 E
  obtain ⟨_, _, ⟨T2, L2, k2, n2⟩, -, X2, ⟨Lc2, hQ2, l2, y2, z2⟩, st2⟩ := X1.virtualBack hx (y := (⟨"java/lang/String", "charAt", "(I)C"⟩ : MethodName)) (z := (⟨"java/lang/String", "charAt", "(I)C"⟩ : MethodName)) hown (mvT hZ (hw _ (List.mem_of_getElem? (i := 74) rfl))) (mvT hZ (hw _ (List.mem_of_getElem? (i := 75) rfl))) (notFace_of_selects (args := #[]) (mvT hZ (hw _ (List.mem_of_getElem? (i := 77) rfl)))) (mvT hZ (hw _ (List.mem_of_getElem? (i := 77) rfl))) (mvT hZ (hw _ (List.mem_of_getElem? (i := 76) rfl))) (by decide) (StrChars.Road.chN (W := 0) hZ hch (kI := 4) (hw _ (List.mem_of_getElem? (i := 29) rfl)) E V C0 K hcd hbd S hz F rf (Nat.le_trans l2 (by decide)) (i := i) hi (j := (Int32.ofNat i)) rfl (by omega) (by omega)) qa2 qc2 (g := (mkF m 26 #[.val (.ref x), .val (.long mx), .second, .val (.long a), .second, .val (.int (Int32.ofNat i)), .unset] [(.int (Int32.ofNat i)), (.ref x)])) rfl (by rw [hml]; rfl) (Steps.refl _) (argsL := [(.int (Int32.ofNat i))]) (rest := []) (lenOf pd_10 rfl) rfl (by show 2 * 0 + _ ≤ _; exact Nat.le_of_eq rfl) (hb hby d8_26) (fun _ _ => ⟨rfl, e1, hc0, hs0⟩)
  dsimp only [Pt.U, Pt.locs, Pt.cells, Pt.slots] at X2 l2 y2 z2 st2 hQ2
  subst l2 y2 z2
  obtain ⟨rfl, rfl, e2⟩ := hQ2
  try rw [List.append_nil] at X2
  refine ⟨T2, X2, e2, fun target k => ?_⟩
  show Steps p.tables e below (T0.setTop (mkF m 14 #[.val (.ref x), .val (.long mx), .second, .val (.long a), .second, .val (.int (Int32.ofNat i)), .unset] [])) _
  refine XS.iload X0.here hx rfl (hb hby d8_14) rfl ?_
  show Steps p.tables e below (T0.setTop (mkF m 16 #[.val (.ref x), .val (.long mx), .second, .val (.long a), .second, .val (.int (Int32.ofNat i)), .unset] [(.int (Int32.ofNat i))])) _
  refine XS.aloadN X0.here hx rfl (hb hby d8_16) rfl rfl ?_
  show Steps p.tables e below (T0.setTop (mkF m 17 #[.val (.ref x), .val (.long mx), .second, .val (.long a), .second, .val (.int (Int32.ofNat i)), .unset] [(.ref x), (.int (Int32.ofNat i))])) _
  refine st1.trans ?_
  show Steps p.tables e below (T1.setTop (mkF m 20 #[.val (.ref x), .val (.long mx), .second, .val (.long a), .second, .val (.int (Int32.ofNat i)), .unset] [(.int (Int32.ofNat cs.length)), (.int (Int32.ofNat i))])) _
  refine XS.icmpNo X1.here hx rfl (hb hby d8_20) rfl (own_notge hi l2) ?_
  show Steps p.tables e below (T1.setTop (mkF m 23 #[.val (.ref x), .val (.long mx), .second, .val (.long a), .second, .val (.int (Int32.ofNat i)), .unset] [])) _
  refine XS.aloadN X1.here hx rfl (hb hby d8_23) rfl rfl ?_
  show Steps p.tables e below (T1.setTop (mkF m 24 #[.val (.ref x), .val (.long mx), .second, .val (.long a), .second, .val (.int (Int32.ofNat i)), .unset] [(.ref x)])) _
  refine XS.iload X1.here hx rfl (hb hby d8_24) rfl ?_
  show Steps p.tables e below (T1.setTop (mkF m 26 #[.val (.ref x), .val (.long mx), .second, .val (.long a), .second, .val (.int (Int32.ofNat i)), .unset] [(.int (Int32.ofNat i)), (.ref x)])) _
  refine st2.trans ?_
  show Steps p.tables e below (T2.setTop (mkF m 29 #[.val (.ref x), .val (.long mx), .second, .val (.long a), .second, .val (.int (Int32.ofNat i)), .unset] [(.int (cs.getD i 0))])) _
  refine XS.bipush X2.here hx rfl (hb hby d8_29) ?_
  show Steps p.tables e below (T2.setTop (mkF m 31 #[.val (.ref x), .val (.long mx), .second, .val (.long a), .second, .val (.int (Int32.ofNat i)), .unset] [(.int (48 : Int32)), (.int (cs.getD i 0))])) _
  refine XS.isub X2.here hx rfl (hb hby d8_31) rfl ?_
  show Steps p.tables e below (T2.setTop (mkF m 32 #[.val (.ref x), .val (.long mx), .second, .val (.long a), .second, .val (.int (Int32.ofNat i)), .unset] [(.int ((cs.getD i 0) - (48 : Int32)))])) _
  refine XS.istore X2.here hx rfl (hb hby d8_32) rfl (l' := #[.val (.ref x), .val (.long mx), .second, .val (.long a), .second, .val (.int (Int32.ofNat i)), .val (.int ((cs.getD i 0) - (48 : Int32)))]) rfl ?_
  show Steps p.tables e below (T2.setTop (mkF m 34 #[.val (.ref x), .val (.long mx), .second, .val (.long a), .second, .val (.int (Int32.ofNat i)), .val (.int ((cs.getD i 0) - (48 : Int32)))] [])) _
  refine XT.lloadN X2.here hx rfl (hb hby d8_34) rfl ?_
  show Steps p.tables e below (T2.setTop (mkF m 35 #[.val (.ref x), .val (.long mx), .second, .val (.long a), .second, .val (.int (Int32.ofNat i)), .val (.int ((cs.getD i 0) - (48 : Int32)))] [(.long a)])) _
  refine XT.lloadN X2.here hx rfl (hb hby d8_35) rfl ?_
  show Steps p.tables e below (T2.setTop (mkF m 36 #[.val (.ref x), .val (.long mx), .second, .val (.long a), .second, .val (.int (Int32.ofNat i)), .val (.int ((cs.getD i 0) - (48 : Int32)))] [(.long mx), (.long a)])) _
  refine X2.ldc2J hx hown (mvT hZ (hw _ (List.mem_of_getElem? (i := 101) rfl))) (g := (mkF m 36 #[.val (.ref x), .val (.long mx), .second, .val (.long a), .second, .val (.int (Int32.ofNat i)), .val (.int ((cs.getD i 0) - (48 : Int32)))] [(.long mx), (.long a)])) rfl (hb hby d8_36) ?_
  show Steps p.tables e below (T2.setTop (mkF m 39 #[.val (.ref x), .val (.long mx), .second, .val (.long a), .second, .val (.int (Int32.ofNat i)), .val (.int ((cs.getD i 0) - (48 : Int32)))] [(.long (10 : Int64)), (.long mx), (.long a)])) _
  refine XT.ldiv X2.here hx rfl (hb hby d8_39) rfl (by decide) ?_
  show Steps p.tables e below (T2.setTop (mkF m 40 #[.val (.ref x), .val (.long mx), .second, .val (.long a), .second, .val (.int (Int32.ofNat i)), .val (.int ((cs.getD i 0) - (48 : Int32)))] [(.long (mx / (10 : Int64))), (.long a)])) _
  refine XT.lcmp X2.here hx rfl (hb hby d8_40) rfl ?_
  show Steps p.tables e below (T2.setTop (mkF m 41 #[.val (.ref x), .val (.long mx), .second, .val (.long a), .second, .val (.int (Int32.ofNat i)), .val (.int ((cs.getD i 0) - (48 : Int32)))] [(.int (XT.cmpL a (mx / (10 : Int64))))])) _
  refine XS.ifYes X2.here hx rfl (pc0 := 41) (pc' := 58) rfl (hb hby d8_41) rfl h1 (by decide) (by decide) ?_
  show Steps p.tables e below (T2.setTop (mkF m 58 #[.val (.ref x), .val (.long mx), .second, .val (.long a), .second, .val (.int (Int32.ofNat i)), .val (.int ((cs.getD i 0) - (48 : Int32)))] [])) _
  exact k
set_option maxRecDepth 65536 in
set_option maxHeartbeats 40000000 in
theorem cnt_DU {p : Program} {l : Launch} {e : Env} {R : Room} {s : State} {m : MethodId} {args : Array Value} {below : List Frame} {meth : Method} {c : Code} {locs : List Loc} {cells slots : Nat} {Z : State} {a0 : Array Value} {h0 : Heap} {T0 : State} (x t : Addr) (kb : ClassId) (cs : List Int32) (N2 G1 : Int32) (G3 : Value) (mx a : Int64) (d6 : Int32) (i : Nat) (hi : i < cs.length) (hx : p.tables.exec = Jvm.exec) (hZ : Z.Warmed39 s.vm) (hw : ∀ d ∈ tables_1, d.before a0 Z = true) (hby : c.code = prog_22_method_3_code) (hml : c.maxLocals = 7) (hown : s.vm.findClass "com/example/kontrakt/kontrakt/input/Numerals" = some m.cls) (hln : ∀ d ∈ StrChars.Road.wordsLen, d.before a0 Z = true) (hch : ∀ d ∈ StrChars.Road.wordsChN, d.before a0 Z = true) (hem : ∀ d ∈ StrChars.Road.wordsEmp, d.before a0 Z = true) (E : Exa Z h0 x "java/lang/String") (V : Fld Z h0 x "java/lang/String" "value" "[B" (.ref t)) (C0 : Fld Z h0 x "java/lang/String" "coder" "B" (.int (0 : Int32))) (K : Arv Z h0 t kb .byte N2 ((cs.map (fun c => c.toInt8.toInt32)).map Value.int) (.int (0 : Int32))) (hcd : StrChars.Road.CodA cs 0 N2 ((cs.map (fun c => c.toInt8.toInt32)).map Value.int)) (hbd : ∀ c ∈ cs, ¬ c < 0 ∧ ¬ (65535 : Int32) < c) (S : Sta Z h0 "java/lang/String" "COMPACT_STRINGS" "Z" (.int G1)) (hz : ¬ G1 = 0) (F : Sta Z h0 "jdk/internal/util/Preconditions" "SIOOBE_FORMATTER" "Ljava/util/function/BiFunction;" G3) (rf : G3.isRef = true) (l0 : 0 < cs.length) (l2 : cs.length ≤ 20) (hF : 4 ≤ R.frames) (hL : 64 ≤ R.locals) (hc0 : cells ≤ R.cells) (hs0 : slots ≤ R.slots) (h1 : ifCond.holds .gt (XT.cmpL a (mx / (10 : Int64))) = false) (h2 : ifCond.holds .le (XT.cmpL ((10 : Int64) * a) (mx - (Int32.toInt64 ((cs.getD i 0) - (48 : Int32))))) = false)
    (X0 : Stand p l e R s m args below meth c T0 locs cells slots) (e0 : T0.heap = h0) : ∃ T', Stand p l e R s m args below meth c T' locs cells slots ∧ T'.heap = h0 ∧ ∀ target, Steps p.tables e below (T'.setTop (mkF m 58 #[.val (.ref x), .val (.long mx), .second, .val (.long a), .second, .val (.int (Int32.ofNat i)), .val (.int ((cs.getD i 0) - (48 : Int32)))] [])) target → Steps p.tables e below (T0.setTop (mkF m 14 #[.val (.ref x), .val (.long mx), .second, .val (.long a), .second, .val (.int (Int32.ofNat i)), .unset] [])) target := by
  obtain ⟨cq1, kq1, qa1, qb1, qc1⟩ := isOf hZ e0 E
  obtain ⟨_, _, ⟨T1, L1, k1, n1⟩, -, X1, ⟨Lc1, hQ1, l1, y1, z1⟩, st1⟩ := X0.virtualBack hx (y := (⟨"java/lang/String", "length", "()I"⟩ : MethodName)) (z := (⟨"java/lang/String", "length", "()I"⟩ : MethodName)) hown (mvT hZ (hw _ (List.mem_of_getElem? (i := 64) rfl))) (mvT hZ (hw _ (List.mem_of_getElem? (i := 65) rfl))) (notFace_of_selects (args := #[]) (mvT hZ (hw _ (List.mem_of_getElem? (i := 67) rfl)))) (mvT hZ (hw _ (List.mem_of_getElem? (i := 67) rfl))) (mvT hZ (hw _ (List.mem_of_getElem? (i := 66) rfl))) (by decide) (StrChars.Road.lenW (W := 1) hZ hln (kI := 4) (hw _ (List.mem_of_getElem? (i := 29) rfl)) E V C0 K hcd hbd S hz (Nat.le_trans l2 (by decide)) (by omega) (by omega)) qa1 qc1 (g := (mkF m 17 #[.val (.ref x), .val (.long mx), .second, .val (.long a), .second, .val (.int (Int32.ofNat i)), .unset] [(.ref x), (.int (Int32.ofNat i))])) rfl (by rw [hml]; rfl) (Steps.refl _) (argsL := []) (rest := [(.int (Int32.ofNat i))]) (lenOf pd_9 rfl) rfl (by show 2 * 0 + _ ≤ _; exact Nat.le_of_eq rfl) (hb hby d8_17) (fun _ _ => ⟨rfl, e0, hc0, hs0⟩)
  dsimp only [Pt.U, Pt.locs, Pt.cells, Pt.slots] at X1 l1 y1 z1 st1 hQ1
  subst l1 y1 z1
  obtain ⟨rfl, rfl, e1⟩ := hQ1
  try rw [List.append_nil] at X1
  obtain ⟨cq2, kq2, qa2, qb2, qc2⟩ := isOf hZ e1 E
  obtain ⟨_, _, ⟨T2, L2, k2, n2⟩, -, X2, ⟨Lc2, hQ2, l2, y2, z2⟩, st2⟩ := X1.virtualBack hx (y := (⟨"java/lang/String", "charAt", "(I)C"⟩ : MethodName)) (z := (⟨"java/lang/String", "charAt", "(I)C"⟩ : MethodName)) hown (mvT hZ (hw _ (List.mem_of_getElem? (i := 74) rfl))) (mvT hZ (hw _ (List.mem_of_getElem? (i := 75) rfl))) (notFace_of_selects (args := #[]) (mvT hZ (hw _ (List.mem_of_getElem? (i := 77) rfl)))) (mvT hZ (hw _ (List.mem_of_getElem? (i := 77) rfl))) (mvT hZ (hw _ (List.mem_of_getElem? (i := 76) rfl))) (by decide) (StrChars.Road.chN (W := 0) hZ hch (kI := 4) (hw _ (List.mem_of_getElem? (i := 29) rfl)) E V C0 K hcd hbd S hz F rf (Nat.le_trans l2 (by decide)) (i := i) hi (j := (Int32.ofNat i)) rfl (by omega) (by omega)) qa2 qc2 (g := (mkF m 26 #[.val (.ref x), .val (.long mx), .second, .val (.long a), .second, .val (.int (Int32.ofNat i)), .unset] [(.int (Int32.ofNat i)), (.ref x)])) rfl (by rw [hml]; rfl) (Steps.refl _) (argsL := [(.int (Int32.ofNat i))]) (rest := []) (lenOf pd_10 rfl) rfl (by show 2 * 0 + _ ≤ _; exact Nat.le_of_eq rfl) (hb hby d8_26) (fun _ _ => ⟨rfl, e1, hc0, hs0⟩)
  dsimp only [Pt.U, Pt.locs, Pt.cells, Pt.slots] at X2 l2 y2 z2 st2 hQ2
  subst l2 y2 z2
  obtain ⟨rfl, rfl, e2⟩ := hQ2
  try rw [List.append_nil] at X2
  refine ⟨T2, X2, e2, fun target k => ?_⟩
  show Steps p.tables e below (T0.setTop (mkF m 14 #[.val (.ref x), .val (.long mx), .second, .val (.long a), .second, .val (.int (Int32.ofNat i)), .unset] [])) _
  refine XS.iload X0.here hx rfl (hb hby d8_14) rfl ?_
  show Steps p.tables e below (T0.setTop (mkF m 16 #[.val (.ref x), .val (.long mx), .second, .val (.long a), .second, .val (.int (Int32.ofNat i)), .unset] [(.int (Int32.ofNat i))])) _
  refine XS.aloadN X0.here hx rfl (hb hby d8_16) rfl rfl ?_
  show Steps p.tables e below (T0.setTop (mkF m 17 #[.val (.ref x), .val (.long mx), .second, .val (.long a), .second, .val (.int (Int32.ofNat i)), .unset] [(.ref x), (.int (Int32.ofNat i))])) _
  refine st1.trans ?_
  show Steps p.tables e below (T1.setTop (mkF m 20 #[.val (.ref x), .val (.long mx), .second, .val (.long a), .second, .val (.int (Int32.ofNat i)), .unset] [(.int (Int32.ofNat cs.length)), (.int (Int32.ofNat i))])) _
  refine XS.icmpNo X1.here hx rfl (hb hby d8_20) rfl (own_notge hi l2) ?_
  show Steps p.tables e below (T1.setTop (mkF m 23 #[.val (.ref x), .val (.long mx), .second, .val (.long a), .second, .val (.int (Int32.ofNat i)), .unset] [])) _
  refine XS.aloadN X1.here hx rfl (hb hby d8_23) rfl rfl ?_
  show Steps p.tables e below (T1.setTop (mkF m 24 #[.val (.ref x), .val (.long mx), .second, .val (.long a), .second, .val (.int (Int32.ofNat i)), .unset] [(.ref x)])) _
  refine XS.iload X1.here hx rfl (hb hby d8_24) rfl ?_
  show Steps p.tables e below (T1.setTop (mkF m 26 #[.val (.ref x), .val (.long mx), .second, .val (.long a), .second, .val (.int (Int32.ofNat i)), .unset] [(.int (Int32.ofNat i)), (.ref x)])) _
  refine st2.trans ?_
  show Steps p.tables e below (T2.setTop (mkF m 29 #[.val (.ref x), .val (.long mx), .second, .val (.long a), .second, .val (.int (Int32.ofNat i)), .unset] [(.int (cs.getD i 0))])) _
  refine XS.bipush X2.here hx rfl (hb hby d8_29) ?_
  show Steps p.tables e below (T2.setTop (mkF m 31 #[.val (.ref x), .val (.long mx), .second, .val (.long a), .second, .val (.int (Int32.ofNat i)), .unset] [(.int (48 : Int32)), (.int (cs.getD i 0))])) _
  refine XS.isub X2.here hx rfl (hb hby d8_31) rfl ?_
  show Steps p.tables e below (T2.setTop (mkF m 32 #[.val (.ref x), .val (.long mx), .second, .val (.long a), .second, .val (.int (Int32.ofNat i)), .unset] [(.int ((cs.getD i 0) - (48 : Int32)))])) _
  refine XS.istore X2.here hx rfl (hb hby d8_32) rfl (l' := #[.val (.ref x), .val (.long mx), .second, .val (.long a), .second, .val (.int (Int32.ofNat i)), .val (.int ((cs.getD i 0) - (48 : Int32)))]) rfl ?_
  show Steps p.tables e below (T2.setTop (mkF m 34 #[.val (.ref x), .val (.long mx), .second, .val (.long a), .second, .val (.int (Int32.ofNat i)), .val (.int ((cs.getD i 0) - (48 : Int32)))] [])) _
  refine XT.lloadN X2.here hx rfl (hb hby d8_34) rfl ?_
  show Steps p.tables e below (T2.setTop (mkF m 35 #[.val (.ref x), .val (.long mx), .second, .val (.long a), .second, .val (.int (Int32.ofNat i)), .val (.int ((cs.getD i 0) - (48 : Int32)))] [(.long a)])) _
  refine XT.lloadN X2.here hx rfl (hb hby d8_35) rfl ?_
  show Steps p.tables e below (T2.setTop (mkF m 36 #[.val (.ref x), .val (.long mx), .second, .val (.long a), .second, .val (.int (Int32.ofNat i)), .val (.int ((cs.getD i 0) - (48 : Int32)))] [(.long mx), (.long a)])) _
  refine X2.ldc2J hx hown (mvT hZ (hw _ (List.mem_of_getElem? (i := 101) rfl))) (g := (mkF m 36 #[.val (.ref x), .val (.long mx), .second, .val (.long a), .second, .val (.int (Int32.ofNat i)), .val (.int ((cs.getD i 0) - (48 : Int32)))] [(.long mx), (.long a)])) rfl (hb hby d8_36) ?_
  show Steps p.tables e below (T2.setTop (mkF m 39 #[.val (.ref x), .val (.long mx), .second, .val (.long a), .second, .val (.int (Int32.ofNat i)), .val (.int ((cs.getD i 0) - (48 : Int32)))] [(.long (10 : Int64)), (.long mx), (.long a)])) _
  refine XT.ldiv X2.here hx rfl (hb hby d8_39) rfl (by decide) ?_
  show Steps p.tables e below (T2.setTop (mkF m 40 #[.val (.ref x), .val (.long mx), .second, .val (.long a), .second, .val (.int (Int32.ofNat i)), .val (.int ((cs.getD i 0) - (48 : Int32)))] [(.long (mx / (10 : Int64))), (.long a)])) _
  refine XT.lcmp X2.here hx rfl (hb hby d8_40) rfl ?_
  show Steps p.tables e below (T2.setTop (mkF m 41 #[.val (.ref x), .val (.long mx), .second, .val (.long a), .second, .val (.int (Int32.ofNat i)), .val (.int ((cs.getD i 0) - (48 : Int32)))] [(.int (XT.cmpL a (mx / (10 : Int64))))])) _
  refine XS.ifNo X2.here hx rfl (hb hby d8_41) rfl h1 ?_
  show Steps p.tables e below (T2.setTop (mkF m 44 #[.val (.ref x), .val (.long mx), .second, .val (.long a), .second, .val (.int (Int32.ofNat i)), .val (.int ((cs.getD i 0) - (48 : Int32)))] [])) _
  refine X2.ldc2J hx hown (mvT hZ (hw _ (List.mem_of_getElem? (i := 101) rfl))) (g := (mkF m 44 #[.val (.ref x), .val (.long mx), .second, .val (.long a), .second, .val (.int (Int32.ofNat i)), .val (.int ((cs.getD i 0) - (48 : Int32)))] [])) rfl (hb hby d8_44) ?_
  show Steps p.tables e below (T2.setTop (mkF m 47 #[.val (.ref x), .val (.long mx), .second, .val (.long a), .second, .val (.int (Int32.ofNat i)), .val (.int ((cs.getD i 0) - (48 : Int32)))] [(.long (10 : Int64))])) _
  refine XT.lloadN X2.here hx rfl (hb hby d8_47) rfl ?_
  show Steps p.tables e below (T2.setTop (mkF m 48 #[.val (.ref x), .val (.long mx), .second, .val (.long a), .second, .val (.int (Int32.ofNat i)), .val (.int ((cs.getD i 0) - (48 : Int32)))] [(.long a), (.long (10 : Int64))])) _
  refine XT.lmul X2.here hx rfl (hb hby d8_48) rfl ?_
  show Steps p.tables e below (T2.setTop (mkF m 49 #[.val (.ref x), .val (.long mx), .second, .val (.long a), .second, .val (.int (Int32.ofNat i)), .val (.int ((cs.getD i 0) - (48 : Int32)))] [(.long ((10 : Int64) * a))])) _
  refine XT.lloadN X2.here hx rfl (hb hby d8_49) rfl ?_
  show Steps p.tables e below (T2.setTop (mkF m 50 #[.val (.ref x), .val (.long mx), .second, .val (.long a), .second, .val (.int (Int32.ofNat i)), .val (.int ((cs.getD i 0) - (48 : Int32)))] [(.long mx), (.long ((10 : Int64) * a))])) _
  refine XS.iload X2.here hx rfl (hb hby d8_50) rfl ?_
  show Steps p.tables e below (T2.setTop (mkF m 52 #[.val (.ref x), .val (.long mx), .second, .val (.long a), .second, .val (.int (Int32.ofNat i)), .val (.int ((cs.getD i 0) - (48 : Int32)))] [(.int ((cs.getD i 0) - (48 : Int32))), (.long mx), (.long ((10 : Int64) * a))])) _
  refine XT.i2l X2.here hx rfl (hb hby d8_52) rfl ?_
  show Steps p.tables e below (T2.setTop (mkF m 53 #[.val (.ref x), .val (.long mx), .second, .val (.long a), .second, .val (.int (Int32.ofNat i)), .val (.int ((cs.getD i 0) - (48 : Int32)))] [(.long (Int32.toInt64 ((cs.getD i 0) - (48 : Int32)))), (.long mx), (.long ((10 : Int64) * a))])) _
  refine XT.lsub X2.here hx rfl (hb hby d8_53) rfl ?_
  show Steps p.tables e below (T2.setTop (mkF m 54 #[.val (.ref x), .val (.long mx), .second, .val (.long a), .second, .val (.int (Int32.ofNat i)), .val (.int ((cs.getD i 0) - (48 : Int32)))] [(.long (mx - (Int32.toInt64 ((cs.getD i 0) - (48 : Int32))))), (.long ((10 : Int64) * a))])) _
  refine XT.lcmp X2.here hx rfl (hb hby d8_54) rfl ?_
  show Steps p.tables e below (T2.setTop (mkF m 55 #[.val (.ref x), .val (.long mx), .second, .val (.long a), .second, .val (.int (Int32.ofNat i)), .val (.int ((cs.getD i 0) - (48 : Int32)))] [(.int (XT.cmpL ((10 : Int64) * a) (mx - (Int32.toInt64 ((cs.getD i 0) - (48 : Int32))))))])) _
  refine XS.ifNo X2.here hx rfl (hb hby d8_55) rfl h2 ?_
  show Steps p.tables e below (T2.setTop (mkF m 58 #[.val (.ref x), .val (.long mx), .second, .val (.long a), .second, .val (.int (Int32.ofNat i)), .val (.int ((cs.getD i 0) - (48 : Int32)))] [])) _
  exact k
set_option maxRecDepth 65536 in
set_option maxHeartbeats 40000000 in
theorem cnt_CU {p : Program} {l : Launch} {e : Env} {R : Room} {s : State} {m : MethodId} {args : Array Value} {below : List Frame} {meth : Method} {c : Code} {locs : List Loc} {cells slots : Nat} {Z : State} {a0 : Array Value} {h0 : Heap} {T0 : State} (x t : Addr) (kb : ClassId) (cs : List Int32) (N2 G1 : Int32) (G3 : Value) (mx a : Int64) (d6 : Int32) (i : Nat) (hi : i = cs.length) (hx : p.tables.exec = Jvm.exec) (hZ : Z.Warmed39 s.vm) (hw : ∀ d ∈ tables_1, d.before a0 Z = true) (hby : c.code = prog_22_method_3_code) (hml : c.maxLocals = 7) (hown : s.vm.findClass "com/example/kontrakt/kontrakt/input/Numerals" = some m.cls) (hln : ∀ d ∈ StrChars.Road.wordsLen, d.before a0 Z = true) (hch : ∀ d ∈ StrChars.Road.wordsChN, d.before a0 Z = true) (hem : ∀ d ∈ StrChars.Road.wordsEmp, d.before a0 Z = true) (E : Exa Z h0 x "java/lang/String") (V : Fld Z h0 x "java/lang/String" "value" "[B" (.ref t)) (C0 : Fld Z h0 x "java/lang/String" "coder" "B" (.int (0 : Int32))) (K : Arv Z h0 t kb .byte N2 ((cs.map (fun c => c.toInt8.toInt32)).map Value.int) (.int (0 : Int32))) (hcd : StrChars.Road.CodA cs 0 N2 ((cs.map (fun c => c.toInt8.toInt32)).map Value.int)) (hbd : ∀ c ∈ cs, ¬ c < 0 ∧ ¬ (65535 : Int32) < c) (S : Sta Z h0 "java/lang/String" "COMPACT_STRINGS" "Z" (.int G1)) (hz : ¬ G1 = 0) (F : Sta Z h0 "jdk/internal/util/Preconditions" "SIOOBE_FORMATTER" "Ljava/util/function/BiFunction;" G3) (rf : G3.isRef = true) (l0 : 0 < cs.length) (l2 : cs.length ≤ 20) (hF : 4 ≤ R.frames) (hL : 64 ≤ R.locals) (hc0 : cells ≤ R.cells) (hs0 : slots ≤ R.slots) 
    (X0 : Stand p l e R s m args below meth c T0 locs cells slots) (e0 : T0.heap = h0) : ∃ T', Stand p l e R s m args below meth c T' locs cells slots ∧ T'.heap = h0 ∧ ∀ target, Steps p.tables e below (T'.setTop (mkF m 76 #[.val (.ref x), .val (.long mx), .second, .val (.long a), .second, .val (.int (Int32.ofNat i)), .unset] [])) target → Steps p.tables e below (T0.setTop (mkF m 14 #[.val (.ref x), .val (.long mx), .second, .val (.long a), .second, .val (.int (Int32.ofNat i)), .unset] [])) target := by
  obtain ⟨cq1, kq1, qa1, qb1, qc1⟩ := isOf hZ e0 E
  obtain ⟨_, _, ⟨T1, L1, k1, n1⟩, -, X1, ⟨Lc1, hQ1, l1, y1, z1⟩, st1⟩ := X0.virtualBack hx (y := (⟨"java/lang/String", "length", "()I"⟩ : MethodName)) (z := (⟨"java/lang/String", "length", "()I"⟩ : MethodName)) hown (mvT hZ (hw _ (List.mem_of_getElem? (i := 64) rfl))) (mvT hZ (hw _ (List.mem_of_getElem? (i := 65) rfl))) (notFace_of_selects (args := #[]) (mvT hZ (hw _ (List.mem_of_getElem? (i := 67) rfl)))) (mvT hZ (hw _ (List.mem_of_getElem? (i := 67) rfl))) (mvT hZ (hw _ (List.mem_of_getElem? (i := 66) rfl))) (by decide) (StrChars.Road.lenW (W := 1) hZ hln (kI := 4) (hw _ (List.mem_of_getElem? (i := 29) rfl)) E V C0 K hcd hbd S hz (Nat.le_trans l2 (by decide)) (by omega) (by omega)) qa1 qc1 (g := (mkF m 17 #[.val (.ref x), .val (.long mx), .second, .val (.long a), .second, .val (.int (Int32.ofNat i)), .unset] [(.ref x), (.int (Int32.ofNat i))])) rfl (by rw [hml]; rfl) (Steps.refl _) (argsL := []) (rest := [(.int (Int32.ofNat i))]) (lenOf pd_9 rfl) rfl (by show 2 * 0 + _ ≤ _; exact Nat.le_of_eq rfl) (hb hby d8_17) (fun _ _ => ⟨rfl, e0, hc0, hs0⟩)
  dsimp only [Pt.U, Pt.locs, Pt.cells, Pt.slots] at X1 l1 y1 z1 st1 hQ1
  subst l1 y1 z1
  obtain ⟨rfl, rfl, e1⟩ := hQ1
  try rw [List.append_nil] at X1
  refine ⟨T1, X1, e1, fun target k => ?_⟩
  show Steps p.tables e below (T0.setTop (mkF m 14 #[.val (.ref x), .val (.long mx), .second, .val (.long a), .second, .val (.int (Int32.ofNat i)), .unset] [])) _
  refine XS.iload X0.here hx rfl (hb hby d8_14) rfl ?_
  show Steps p.tables e below (T0.setTop (mkF m 16 #[.val (.ref x), .val (.long mx), .second, .val (.long a), .second, .val (.int (Int32.ofNat i)), .unset] [(.int (Int32.ofNat i))])) _
  refine XS.aloadN X0.here hx rfl (hb hby d8_16) rfl rfl ?_
  show Steps p.tables e below (T0.setTop (mkF m 17 #[.val (.ref x), .val (.long mx), .second, .val (.long a), .second, .val (.int (Int32.ofNat i)), .unset] [(.ref x), (.int (Int32.ofNat i))])) _
  refine st1.trans ?_
  show Steps p.tables e below (T1.setTop (mkF m 20 #[.val (.ref x), .val (.long mx), .second, .val (.long a), .second, .val (.int (Int32.ofNat i)), .unset] [(.int (Int32.ofNat cs.length)), (.int (Int32.ofNat i))])) _
  refine XS.icmpYes X1.here hx rfl (pc0 := 20) (pc' := 76) rfl (hb hby d8_20) rfl (own_isge hi) (by decide) (by decide) ?_
  show Steps p.tables e below (T1.setTop (mkF m 76 #[.val (.ref x), .val (.long mx), .second, .val (.long a), .second, .val (.int (Int32.ofNat i)), .unset] [])) _
  exact k
set_option maxRecDepth 65536 in
set_option maxHeartbeats 40000000 in
theorem cnt_AV {p : Program} {l : Launch} {e : Env} {R : Room} {s : State} {m : MethodId} {args : Array Value} {below : List Frame} {meth : Method} {c : Code} {locs : List Loc} {cells slots : Nat} {Z : State} {a0 : Array Value} {h0 : Heap} {T0 : State} (x t : Addr) (kb : ClassId) (cs : List Int32) (N2 G1 : Int32) (G3 : Value) (mx a : Int64) (d6 : Int32) (i : Nat) (hi : i < cs.length) (hx : p.tables.exec = Jvm.exec) (hZ : Z.Warmed39 s.vm) (hw : ∀ d ∈ tables_1, d.before a0 Z = true) (hby : c.code = prog_22_method_3_code) (hml : c.maxLocals = 7) (hown : s.vm.findClass "com/example/kontrakt/kontrakt/input/Numerals" = some m.cls) (hln : ∀ d ∈ StrChars.Road.wordsLen, d.before a0 Z = true) (hch : ∀ d ∈ StrChars.Road.wordsChN, d.before a0 Z = true) (hem : ∀ d ∈ StrChars.Road.wordsEmp, d.before a0 Z = true) (E : Exa Z h0 x "java/lang/String") (V : Fld Z h0 x "java/lang/String" "value" "[B" (.ref t)) (C0 : Fld Z h0 x "java/lang/String" "coder" "B" (.int (0 : Int32))) (K : Arv Z h0 t kb .byte N2 ((cs.map (fun c => c.toInt8.toInt32)).map Value.int) (.int (0 : Int32))) (hcd : StrChars.Road.CodA cs 0 N2 ((cs.map (fun c => c.toInt8.toInt32)).map Value.int)) (hbd : ∀ c ∈ cs, ¬ c < 0 ∧ ¬ (65535 : Int32) < c) (S : Sta Z h0 "java/lang/String" "COMPACT_STRINGS" "Z" (.int G1)) (hz : ¬ G1 = 0) (F : Sta Z h0 "jdk/internal/util/Preconditions" "SIOOBE_FORMATTER" "Ljava/util/function/BiFunction;" G3) (rf : G3.isRef = true) (l0 : 0 < cs.length) (l2 : cs.length ≤ 20) (hF : 4 ≤ R.frames) (hL : 64 ≤ R.locals) (hc0 : cells ≤ R.cells) (hs0 : slots ≤ R.slots) (h1 : ifCond.holds .gt (XT.cmpL a (mx / (10 : Int64))) = false) (h2 : ifCond.holds .le (XT.cmpL ((10 : Int64) * a) (mx - (Int32.toInt64 ((cs.getD i 0) - (48 : Int32))))) = true)
    (X0 : Stand p l e R s m args below meth c T0 locs cells slots) (e0 : T0.heap = h0) : ∃ T', Stand p l e R s m args below meth c T' locs cells slots ∧ T'.heap = h0 ∧ ∀ target, Steps p.tables e below (T'.setTop (mkF m 14 #[.val (.ref x), .val (.long mx), .second, .val (.long (((10 : Int64) * a) + (Int32.toInt64 ((cs.getD i 0) - (48 : Int32))))), .second, .val (.int ((Int32.ofNat i) + (1 : Int32))), .val (.int ((cs.getD i 0) - (48 : Int32)))] [])) target → Steps p.tables e below (T0.setTop (mkF m 14 #[.val (.ref x), .val (.long mx), .second, .val (.long a), .second, .val (.int (Int32.ofNat i)), .val (.int d6)] [])) target := by
  obtain ⟨cq1, kq1, qa1, qb1, qc1⟩ := isOf hZ e0 E
  obtain ⟨_, _, ⟨T1, L1, k1, n1⟩, -, X1, ⟨Lc1, hQ1, l1, y1, z1⟩, st1⟩ := X0.virtualBack hx (y := (⟨"java/lang/String", "length", "()I"⟩ : MethodName)) (z := (⟨"java/lang/String", "length", "()I"⟩ : MethodName)) hown (mvT hZ (hw _ (List.mem_of_getElem? (i := 64) rfl))) (mvT hZ (hw _ (List.mem_of_getElem? (i := 65) rfl))) (notFace_of_selects (args := #[]) (mvT hZ (hw _ (List.mem_of_getElem? (i := 67) rfl)))) (mvT hZ (hw _ (List.mem_of_getElem? (i := 67) rfl))) (mvT hZ (hw _ (List.mem_of_getElem? (i := 66) rfl))) (by decide) (StrChars.Road.lenW (W := 1) hZ hln (kI := 4) (hw _ (List.mem_of_getElem? (i := 29) rfl)) E V C0 K hcd hbd S hz (Nat.le_trans l2 (by decide)) (by omega) (by omega)) qa1 qc1 (g := (mkF m 17 #[.val (.ref x), .val (.long mx), .second, .val (.long a), .second, .val (.int (Int32.ofNat i)), .val (.int d6)] [(.ref x), (.int (Int32.ofNat i))])) rfl (by rw [hml]; rfl) (Steps.refl _) (argsL := []) (rest := [(.int (Int32.ofNat i))]) (lenOf pd_9 rfl) rfl (by show 2 * 0 + _ ≤ _; exact Nat.le_of_eq rfl) (hb hby d8_17) (fun _ _ => ⟨rfl, e0, hc0, hs0⟩)
  dsimp only [Pt.U, Pt.locs, Pt.cells, Pt.slots] at X1 l1 y1 z1 st1 hQ1
  subst l1 y1 z1
  obtain ⟨rfl, rfl, e1⟩ := hQ1
  try rw [List.append_nil] at X1
  obtain ⟨cq2, kq2, qa2, qb2, qc2⟩ := isOf hZ e1 E
  obtain ⟨_, _, ⟨T2, L2, k2, n2⟩, -, X2, ⟨Lc2, hQ2, l2, y2, z2⟩, st2⟩ := X1.virtualBack hx (y := (⟨"java/lang/String", "charAt", "(I)C"⟩ : MethodName)) (z := (⟨"java/lang/String", "charAt", "(I)C"⟩ : MethodName)) hown (mvT hZ (hw _ (List.mem_of_getElem? (i := 74) rfl))) (mvT hZ (hw _ (List.mem_of_getElem? (i := 75) rfl))) (notFace_of_selects (args := #[]) (mvT hZ (hw _ (List.mem_of_getElem? (i := 77) rfl)))) (mvT hZ (hw _ (List.mem_of_getElem? (i := 77) rfl))) (mvT hZ (hw _ (List.mem_of_getElem? (i := 76) rfl))) (by decide) (StrChars.Road.chN (W := 0) hZ hch (kI := 4) (hw _ (List.mem_of_getElem? (i := 29) rfl)) E V C0 K hcd hbd S hz F rf (Nat.le_trans l2 (by decide)) (i := i) hi (j := (Int32.ofNat i)) rfl (by omega) (by omega)) qa2 qc2 (g := (mkF m 26 #[.val (.ref x), .val (.long mx), .second, .val (.long a), .second, .val (.int (Int32.ofNat i)), .val (.int d6)] [(.int (Int32.ofNat i)), (.ref x)])) rfl (by rw [hml]; rfl) (Steps.refl _) (argsL := [(.int (Int32.ofNat i))]) (rest := []) (lenOf pd_10 rfl) rfl (by show 2 * 0 + _ ≤ _; exact Nat.le_of_eq rfl) (hb hby d8_26) (fun _ _ => ⟨rfl, e1, hc0, hs0⟩)
  dsimp only [Pt.U, Pt.locs, Pt.cells, Pt.slots] at X2 l2 y2 z2 st2 hQ2
  subst l2 y2 z2
  obtain ⟨rfl, rfl, e2⟩ := hQ2
  try rw [List.append_nil] at X2
  refine ⟨T2, X2, e2, fun target k => ?_⟩
  show Steps p.tables e below (T0.setTop (mkF m 14 #[.val (.ref x), .val (.long mx), .second, .val (.long a), .second, .val (.int (Int32.ofNat i)), .val (.int d6)] [])) _
  refine XS.iload X0.here hx rfl (hb hby d8_14) rfl ?_
  show Steps p.tables e below (T0.setTop (mkF m 16 #[.val (.ref x), .val (.long mx), .second, .val (.long a), .second, .val (.int (Int32.ofNat i)), .val (.int d6)] [(.int (Int32.ofNat i))])) _
  refine XS.aloadN X0.here hx rfl (hb hby d8_16) rfl rfl ?_
  show Steps p.tables e below (T0.setTop (mkF m 17 #[.val (.ref x), .val (.long mx), .second, .val (.long a), .second, .val (.int (Int32.ofNat i)), .val (.int d6)] [(.ref x), (.int (Int32.ofNat i))])) _
  refine st1.trans ?_
  show Steps p.tables e below (T1.setTop (mkF m 20 #[.val (.ref x), .val (.long mx), .second, .val (.long a), .second, .val (.int (Int32.ofNat i)), .val (.int d6)] [(.int (Int32.ofNat cs.length)), (.int (Int32.ofNat i))])) _
  refine XS.icmpNo X1.here hx rfl (hb hby d8_20) rfl (own_notge hi l2) ?_
  show Steps p.tables e below (T1.setTop (mkF m 23 #[.val (.ref x), .val (.long mx), .second, .val (.long a), .second, .val (.int (Int32.ofNat i)), .val (.int d6)] [])) _
  refine XS.aloadN X1.here hx rfl (hb hby d8_23) rfl rfl ?_
  show Steps p.tables e below (T1.setTop (mkF m 24 #[.val (.ref x), .val (.long mx), .second, .val (.long a), .second, .val (.int (Int32.ofNat i)), .val (.int d6)] [(.ref x)])) _
  refine XS.iload X1.here hx rfl (hb hby d8_24) rfl ?_
  show Steps p.tables e below (T1.setTop (mkF m 26 #[.val (.ref x), .val (.long mx), .second, .val (.long a), .second, .val (.int (Int32.ofNat i)), .val (.int d6)] [(.int (Int32.ofNat i)), (.ref x)])) _
  refine st2.trans ?_
  show Steps p.tables e below (T2.setTop (mkF m 29 #[.val (.ref x), .val (.long mx), .second, .val (.long a), .second, .val (.int (Int32.ofNat i)), .val (.int d6)] [(.int (cs.getD i 0))])) _
  refine XS.bipush X2.here hx rfl (hb hby d8_29) ?_
  show Steps p.tables e below (T2.setTop (mkF m 31 #[.val (.ref x), .val (.long mx), .second, .val (.long a), .second, .val (.int (Int32.ofNat i)), .val (.int d6)] [(.int (48 : Int32)), (.int (cs.getD i 0))])) _
  refine XS.isub X2.here hx rfl (hb hby d8_31) rfl ?_
  show Steps p.tables e below (T2.setTop (mkF m 32 #[.val (.ref x), .val (.long mx), .second, .val (.long a), .second, .val (.int (Int32.ofNat i)), .val (.int d6)] [(.int ((cs.getD i 0) - (48 : Int32)))])) _
  refine XS.istore X2.here hx rfl (hb hby d8_32) rfl (l' := #[.val (.ref x), .val (.long mx), .second, .val (.long a), .second, .val (.int (Int32.ofNat i)), .val (.int ((cs.getD i 0) - (48 : Int32)))]) rfl ?_
  show Steps p.tables e below (T2.setTop (mkF m 34 #[.val (.ref x), .val (.long mx), .second, .val (.long a), .second, .val (.int (Int32.ofNat i)), .val (.int ((cs.getD i 0) - (48 : Int32)))] [])) _
  refine XT.lloadN X2.here hx rfl (hb hby d8_34) rfl ?_
  show Steps p.tables e below (T2.setTop (mkF m 35 #[.val (.ref x), .val (.long mx), .second, .val (.long a), .second, .val (.int (Int32.ofNat i)), .val (.int ((cs.getD i 0) - (48 : Int32)))] [(.long a)])) _
  refine XT.lloadN X2.here hx rfl (hb hby d8_35) rfl ?_
  show Steps p.tables e below (T2.setTop (mkF m 36 #[.val (.ref x), .val (.long mx), .second, .val (.long a), .second, .val (.int (Int32.ofNat i)), .val (.int ((cs.getD i 0) - (48 : Int32)))] [(.long mx), (.long a)])) _
  refine X2.ldc2J hx hown (mvT hZ (hw _ (List.mem_of_getElem? (i := 101) rfl))) (g := (mkF m 36 #[.val (.ref x), .val (.long mx), .second, .val (.long a), .second, .val (.int (Int32.ofNat i)), .val (.int ((cs.getD i 0) - (48 : Int32)))] [(.long mx), (.long a)])) rfl (hb hby d8_36) ?_
  show Steps p.tables e below (T2.setTop (mkF m 39 #[.val (.ref x), .val (.long mx), .second, .val (.long a), .second, .val (.int (Int32.ofNat i)), .val (.int ((cs.getD i 0) - (48 : Int32)))] [(.long (10 : Int64)), (.long mx), (.long a)])) _
  refine XT.ldiv X2.here hx rfl (hb hby d8_39) rfl (by decide) ?_
  show Steps p.tables e below (T2.setTop (mkF m 40 #[.val (.ref x), .val (.long mx), .second, .val (.long a), .second, .val (.int (Int32.ofNat i)), .val (.int ((cs.getD i 0) - (48 : Int32)))] [(.long (mx / (10 : Int64))), (.long a)])) _
  refine XT.lcmp X2.here hx rfl (hb hby d8_40) rfl ?_
  show Steps p.tables e below (T2.setTop (mkF m 41 #[.val (.ref x), .val (.long mx), .second, .val (.long a), .second, .val (.int (Int32.ofNat i)), .val (.int ((cs.getD i 0) - (48 : Int32)))] [(.int (XT.cmpL a (mx / (10 : Int64))))])) _
  refine XS.ifNo X2.here hx rfl (hb hby d8_41) rfl h1 ?_
  show Steps p.tables e below (T2.setTop (mkF m 44 #[.val (.ref x), .val (.long mx), .second, .val (.long a), .second, .val (.int (Int32.ofNat i)), .val (.int ((cs.getD i 0) - (48 : Int32)))] [])) _
  refine X2.ldc2J hx hown (mvT hZ (hw _ (List.mem_of_getElem? (i := 101) rfl))) (g := (mkF m 44 #[.val (.ref x), .val (.long mx), .second, .val (.long a), .second, .val (.int (Int32.ofNat i)), .val (.int ((cs.getD i 0) - (48 : Int32)))] [])) rfl (hb hby d8_44) ?_
  show Steps p.tables e below (T2.setTop (mkF m 47 #[.val (.ref x), .val (.long mx), .second, .val (.long a), .second, .val (.int (Int32.ofNat i)), .val (.int ((cs.getD i 0) - (48 : Int32)))] [(.long (10 : Int64))])) _
  refine XT.lloadN X2.here hx rfl (hb hby d8_47) rfl ?_
  show Steps p.tables e below (T2.setTop (mkF m 48 #[.val (.ref x), .val (.long mx), .second, .val (.long a), .second, .val (.int (Int32.ofNat i)), .val (.int ((cs.getD i 0) - (48 : Int32)))] [(.long a), (.long (10 : Int64))])) _
  refine XT.lmul X2.here hx rfl (hb hby d8_48) rfl ?_
  show Steps p.tables e below (T2.setTop (mkF m 49 #[.val (.ref x), .val (.long mx), .second, .val (.long a), .second, .val (.int (Int32.ofNat i)), .val (.int ((cs.getD i 0) - (48 : Int32)))] [(.long ((10 : Int64) * a))])) _
  refine XT.lloadN X2.here hx rfl (hb hby d8_49) rfl ?_
  show Steps p.tables e below (T2.setTop (mkF m 50 #[.val (.ref x), .val (.long mx), .second, .val (.long a), .second, .val (.int (Int32.ofNat i)), .val (.int ((cs.getD i 0) - (48 : Int32)))] [(.long mx), (.long ((10 : Int64) * a))])) _
  refine XS.iload X2.here hx rfl (hb hby d8_50) rfl ?_
  show Steps p.tables e below (T2.setTop (mkF m 52 #[.val (.ref x), .val (.long mx), .second, .val (.long a), .second, .val (.int (Int32.ofNat i)), .val (.int ((cs.getD i 0) - (48 : Int32)))] [(.int ((cs.getD i 0) - (48 : Int32))), (.long mx), (.long ((10 : Int64) * a))])) _
  refine XT.i2l X2.here hx rfl (hb hby d8_52) rfl ?_
  show Steps p.tables e below (T2.setTop (mkF m 53 #[.val (.ref x), .val (.long mx), .second, .val (.long a), .second, .val (.int (Int32.ofNat i)), .val (.int ((cs.getD i 0) - (48 : Int32)))] [(.long (Int32.toInt64 ((cs.getD i 0) - (48 : Int32)))), (.long mx), (.long ((10 : Int64) * a))])) _
  refine XT.lsub X2.here hx rfl (hb hby d8_53) rfl ?_
  show Steps p.tables e below (T2.setTop (mkF m 54 #[.val (.ref x), .val (.long mx), .second, .val (.long a), .second, .val (.int (Int32.ofNat i)), .val (.int ((cs.getD i 0) - (48 : Int32)))] [(.long (mx - (Int32.toInt64 ((cs.getD i 0) - (48 : Int32))))), (.long ((10 : Int64) * a))])) _
  refine XT.lcmp X2.here hx rfl (hb hby d8_54) rfl ?_
  show Steps p.tables e below (T2.setTop (mkF m 55 #[.val (.ref x), .val (.long mx), .second, .val (.long a), .second, .val (.int (Int32.ofNat i)), .val (.int ((cs.getD i 0) - (48 : Int32)))] [(.int (XT.cmpL ((10 : Int64) * a) (mx - (Int32.toInt64 ((cs.getD i 0) - (48 : Int32))))))])) _
  refine XS.ifYes X2.here hx rfl (pc0 := 55) (pc' := 60) rfl (hb hby d8_55) rfl h2 (by decide) (by decide) ?_
  show Steps p.tables e below (T2.setTop (mkF m 60 #[.val (.ref x), .val (.long mx), .second, .val (.long a), .second, .val (.int (Int32.ofNat i)), .val (.int ((cs.getD i 0) - (48 : Int32)))] [])) _
  refine X2.ldc2J hx hown (mvT hZ (hw _ (List.mem_of_getElem? (i := 101) rfl))) (g := (mkF m 60 #[.val (.ref x), .val (.long mx), .second, .val (.long a), .second, .val (.int (Int32.ofNat i)), .val (.int ((cs.getD i 0) - (48 : Int32)))] [])) rfl (hb hby d8_60) ?_
  show Steps p.tables e below (T2.setTop (mkF m 63 #[.val (.ref x), .val (.long mx), .second, .val (.long a), .second, .val (.int (Int32.ofNat i)), .val (.int ((cs.getD i 0) - (48 : Int32)))] [(.long (10 : Int64))])) _
  refine XT.lloadN X2.here hx rfl (hb hby d8_63) rfl ?_
  show Steps p.tables e below (T2.setTop (mkF m 64 #[.val (.ref x), .val (.long mx), .second, .val (.long a), .second, .val (.int (Int32.ofNat i)), .val (.int ((cs.getD i 0) - (48 : Int32)))] [(.long a), (.long (10 : Int64))])) _
  refine XT.lmul X2.here hx rfl (hb hby d8_64) rfl ?_
  show Steps p.tables e below (T2.setTop (mkF m 65 #[.val (.ref x), .val (.long mx), .second, .val (.long a), .second, .val (.int (Int32.ofNat i)), .val (.int ((cs.getD i 0) - (48 : Int32)))] [(.long ((10 : Int64) * a))])) _
  refine XS.iload X2.here hx rfl (hb hby d8_65) rfl ?_
  show Steps p.tables e below (T2.setTop (mkF m 67 #[.val (.ref x), .val (.long mx), .second, .val (.long a), .second, .val (.int (Int32.ofNat i)), .val (.int ((cs.getD i 0) - (48 : Int32)))] [(.int ((cs.getD i 0) - (48 : Int32))), (.long ((10 : Int64) * a))])) _
  refine XT.i2l X2.here hx rfl (hb hby d8_67) rfl ?_
  show Steps p.tables e below (T2.setTop (mkF m 68 #[.val (.ref x), .val (.long mx), .second, .val (.long a), .second, .val (.int (Int32.ofNat i)), .val (.int ((cs.getD i 0) - (48 : Int32)))] [(.long (Int32.toInt64 ((cs.getD i 0) - (48 : Int32)))), (.long ((10 : Int64) * a))])) _
  refine XT.ladd X2.here hx rfl (hb hby d8_68) rfl ?_
  show Steps p.tables e below (T2.setTop (mkF m 69 #[.val (.ref x), .val (.long mx), .second, .val (.long a), .second, .val (.int (Int32.ofNat i)), .val (.int ((cs.getD i 0) - (48 : Int32)))] [(.long (((10 : Int64) * a) + (Int32.toInt64 ((cs.getD i 0) - (48 : Int32)))))])) _
  refine XT.lstoreN X2.here hx rfl (hb hby d8_69) rfl (l' := #[.val (.ref x), .val (.long mx), .second, .val (.long (((10 : Int64) * a) + (Int32.toInt64 ((cs.getD i 0) - (48 : Int32))))), .second, .val (.int (Int32.ofNat i)), .val (.int ((cs.getD i 0) - (48 : Int32)))]) rfl ?_
  show Steps p.tables e below (T2.setTop (mkF m 70 #[.val (.ref x), .val (.long mx), .second, .val (.long (((10 : Int64) * a) + (Int32.toInt64 ((cs.getD i 0) - (48 : Int32))))), .second, .val (.int (Int32.ofNat i)), .val (.int ((cs.getD i 0) - (48 : Int32)))] [])) _
  refine XS.iinc X2.here hx rfl (hb hby d8_70) rfl (l' := #[.val (.ref x), .val (.long mx), .second, .val (.long (((10 : Int64) * a) + (Int32.toInt64 ((cs.getD i 0) - (48 : Int32))))), .second, .val (.int ((Int32.ofNat i) + (1 : Int32))), .val (.int ((cs.getD i 0) - (48 : Int32)))]) rfl ?_
  show Steps p.tables e below (T2.setTop (mkF m 73 #[.val (.ref x), .val (.long mx), .second, .val (.long (((10 : Int64) * a) + (Int32.toInt64 ((cs.getD i 0) - (48 : Int32))))), .second, .val (.int ((Int32.ofNat i) + (1 : Int32))), .val (.int ((cs.getD i 0) - (48 : Int32)))] [])) _
  refine XS.goto X2.here hx rfl (pc0 := 73) (pc' := 14) rfl (hb hby d8_73) (by decide) (by decide) ?_
  show Steps p.tables e below (T2.setTop (mkF m 14 #[.val (.ref x), .val (.long mx), .second, .val (.long (((10 : Int64) * a) + (Int32.toInt64 ((cs.getD i 0) - (48 : Int32))))), .second, .val (.int ((Int32.ofNat i) + (1 : Int32))), .val (.int ((cs.getD i 0) - (48 : Int32)))] [])) _
  exact k
set_option maxRecDepth 65536 in
set_option maxHeartbeats 40000000 in
theorem cnt_BV {p : Program} {l : Launch} {e : Env} {R : Room} {s : State} {m : MethodId} {args : Array Value} {below : List Frame} {meth : Method} {c : Code} {locs : List Loc} {cells slots : Nat} {Z : State} {a0 : Array Value} {h0 : Heap} {T0 : State} (x t : Addr) (kb : ClassId) (cs : List Int32) (N2 G1 : Int32) (G3 : Value) (mx a : Int64) (d6 : Int32) (i : Nat) (hi : i < cs.length) (hx : p.tables.exec = Jvm.exec) (hZ : Z.Warmed39 s.vm) (hw : ∀ d ∈ tables_1, d.before a0 Z = true) (hby : c.code = prog_22_method_3_code) (hml : c.maxLocals = 7) (hown : s.vm.findClass "com/example/kontrakt/kontrakt/input/Numerals" = some m.cls) (hln : ∀ d ∈ StrChars.Road.wordsLen, d.before a0 Z = true) (hch : ∀ d ∈ StrChars.Road.wordsChN, d.before a0 Z = true) (hem : ∀ d ∈ StrChars.Road.wordsEmp, d.before a0 Z = true) (E : Exa Z h0 x "java/lang/String") (V : Fld Z h0 x "java/lang/String" "value" "[B" (.ref t)) (C0 : Fld Z h0 x "java/lang/String" "coder" "B" (.int (0 : Int32))) (K : Arv Z h0 t kb .byte N2 ((cs.map (fun c => c.toInt8.toInt32)).map Value.int) (.int (0 : Int32))) (hcd : StrChars.Road.CodA cs 0 N2 ((cs.map (fun c => c.toInt8.toInt32)).map Value.int)) (hbd : ∀ c ∈ cs, ¬ c < 0 ∧ ¬ (65535 : Int32) < c) (S : Sta Z h0 "java/lang/String" "COMPACT_STRINGS" "Z" (.int G1)) (hz : ¬ G1 = 0) (F : Sta Z h0 "jdk/internal/util/Preconditions" "SIOOBE_FORMATTER" "Ljava/util/function/BiFunction;" G3) (rf : G3.isRef = true) (l0 : 0 < cs.length) (l2 : cs.length ≤ 20) (hF : 4 ≤ R.frames) (hL : 64 ≤ R.locals) (hc0 : cells ≤ R.cells) (hs0 : slots ≤ R.slots) (h1 : ifCond.holds .gt (XT.cmpL a (mx / (10 : Int64))) = true)
    (X0 : Stand p l e R s m args below meth c T0 locs cells slots) (e0 : T0.heap = h0) : ∃ T', Stand p l e R s m args below meth c T' locs cells slots ∧ T'.heap = h0 ∧ ∀ target, Steps p.tables e below (T'.setTop (mkF m 58 #[.val (.ref x), .val (.long mx), .second, .val (.long a), .second, .val (.int (Int32.ofNat i)), .val (.int ((cs.getD i 0) - (48 : Int32)))] [])) target → Steps p.tables e below (T0.setTop (mkF m 14 #[.val (.ref x), .val (.long mx), .second, .val (.long a), .second, .val (.int (Int32.ofNat i)), .val (.int d6)] [])) target := by
  obtain ⟨cq1, kq1, qa1, qb1, qc1⟩ := isOf hZ e0 E
  obtain ⟨_, _, ⟨T1, L1, k1, n1⟩, -, X1, ⟨Lc1, hQ1, l1, y1, z1⟩, st1⟩ := X0.virtualBack hx (y := (⟨"java/lang/String", "length", "()I"⟩ : MethodName)) (z := (⟨"java/lang/String", "length", "()I"⟩ : MethodName)) hown (mvT hZ (hw _ (List.mem_of_getElem? (i := 64) rfl))) (mvT hZ (hw _ (List.mem_of_getElem? (i := 65) rfl))) (notFace_of_selects (args := #[]) (mvT hZ (hw _ (List.mem_of_getElem? (i := 67) rfl)))) (mvT hZ (hw _ (List.mem_of_getElem? (i := 67) rfl))) (mvT hZ (hw _ (List.mem_of_getElem? (i := 66) rfl))) (by decide) (StrChars.Road.lenW (W := 1) hZ hln (kI := 4) (hw _ (List.mem_of_getElem? (i := 29) rfl)) E V C0 K hcd hbd S hz (Nat.le_trans l2 (by decide)) (by omega) (by omega)) qa1 qc1 (g := (mkF m 17 #[.val (.ref x), .val (.long mx), .second, .val (.long a), .second, .val (.int (Int32.ofNat i)), .val (.int d6)] [(.ref x), (.int (Int32.ofNat i))])) rfl (by rw [hml]; rfl) (Steps.refl _) (argsL := []) (rest := [(.int (Int32.ofNat i))]) (lenOf pd_9 rfl) rfl (by show 2 * 0 + _ ≤ _; exact Nat.le_of_eq rfl) (hb hby d8_17) (fun _ _ => ⟨rfl, e0, hc0, hs0⟩)
  dsimp only [Pt.U, Pt.locs, Pt.cells, Pt.slots] at X1 l1 y1 z1 st1 hQ1
  subst l1 y1 z1
  obtain ⟨rfl, rfl, e1⟩ := hQ1
  try rw [List.append_nil] at X1
  obtain ⟨cq2, kq2, qa2, qb2, qc2⟩ := isOf hZ e1 E
  obtain ⟨_, _, ⟨T2, L2, k2, n2⟩, -, X2, ⟨Lc2, hQ2, l2, y2, z2⟩, st2⟩ := X1.virtualBack hx (y := (⟨"java/lang/String", "charAt", "(I)C"⟩ : MethodName)) (z := (⟨"java/lang/String", "charAt", "(I)C"⟩ : MethodName)) hown (mvT hZ (hw _ (List.mem_of_getElem? (i := 74) rfl))) (mvT hZ (hw _ (List.mem_of_getElem? (i := 75) rfl))) (notFace_of_selects (args := #[]) (mvT hZ (hw _ (List.mem_of_getElem? (i := 77) rfl)))) (mvT hZ (hw _ (List.mem_of_getElem? (i := 77) rfl))) (mvT hZ (hw _ (List.mem_of_getElem? (i := 76) rfl))) (by decide) (StrChars.Road.chN (W := 0) hZ hch (kI := 4) (hw _ (List.mem_of_getElem? (i := 29) rfl)) E V C0 K hcd hbd S hz F rf (Nat.le_trans l2 (by decide)) (i := i) hi (j := (Int32.ofNat i)) rfl (by omega) (by omega)) qa2 qc2 (g := (mkF m 26 #[.val (.ref x), .val (.long mx), .second, .val (.long a), .second, .val (.int (Int32.ofNat i)), .val (.int d6)] [(.int (Int32.ofNat i)), (.ref x)])) rfl (by rw [hml]; rfl) (Steps.refl _) (argsL := [(.int (Int32.ofNat i))]) (rest := []) (lenOf pd_10 rfl) rfl (by show 2 * 0 + _ ≤ _; exact Nat.le_of_eq rfl) (hb hby d8_26) (fun _ _ => ⟨rfl, e1, hc0, hs0⟩)
  dsimp only [Pt.U, Pt.locs, Pt.cells, Pt.slots] at X2 l2 y2 z2 st2 hQ2
  subst l2 y2 z2
  obtain ⟨rfl, rfl, e2⟩ := hQ2
  try rw [List.append_nil] at X2
  refine ⟨T2, X2, e2, fun target k => ?_⟩
  show Steps p.tables e below (T0.setTop (mkF m 14 #[.val (.ref x), .val (.long mx), .second, .val (.long a), .second, .val (.int (Int32.ofNat i)), .val (.int d6)] [])) _
  refine XS.iload X0.here hx rfl (hb hby d8_14) rfl ?_
  show Steps p.tables e below (T0.setTop (mkF m 16 #[.val (.ref x), .val (.long mx), .second, .val (.long a), .second, .val (.int (Int32.ofNat i)), .val (.int d6)] [(.int (Int32.ofNat i))])) _
  refine XS.aloadN X0.here hx rfl (hb hby d8_16) rfl rfl ?_
  show Steps p.tables e below (T0.setTop (mkF m 17 #[.val (.ref x), .val (.long mx), .second, .val (.long a), .second, .val (.int (Int32.ofNat i)), .val (.int d6)] [(.ref x), (.int (Int32.ofNat i))])) _
  refine st1.trans ?_
  show Steps p.tables e below (T1.setTop (mkF m 20 #[.val (.ref x), .val (.long mx), .second, .val (.long a), .second, .val (.int (Int32.ofNat i)), .val (.int d6)] [(.int (Int32.ofNat cs.length)), (.int (Int32.ofNat i))])) _
  refine XS.icmpNo X1.here hx rfl (hb hby d8_20) rfl (own_notge hi l2) ?_
  show Steps p.tables e below (T1.setTop (mkF m 23 #[.val (.ref x), .val (.long mx), .second, .val (.long a), .second, .val (.int (Int32.ofNat i)), .val (.int d6)] [])) _
  refine XS.aloadN X1.here hx rfl (hb hby d8_23) rfl rfl ?_
  show Steps p.tables e below (T1.setTop (mkF m 24 #[.val (.ref x), .val (.long mx), .second, .val (.long a), .second, .val (.int (Int32.ofNat i)), .val (.int d6)] [(.ref x)])) _
  refine XS.iload X1.here hx rfl (hb hby d8_24) rfl ?_
  show Steps p.tables e below (T1.setTop (mkF m 26 #[.val (.ref x), .val (.long mx), .second, .val (.long a), .second, .val (.int (Int32.ofNat i)), .val (.int d6)] [(.int (Int32.ofNat i)), (.ref x)])) _
  refine st2.trans ?_
  show Steps p.tables e below (T2.setTop (mkF m 29 #[.val (.ref x), .val (.long mx), .second, .val (.long a), .second, .val (.int (Int32.ofNat i)), .val (.int d6)] [(.int (cs.getD i 0))])) _
  refine XS.bipush X2.here hx rfl (hb hby d8_29) ?_
  show Steps p.tables e below (T2.setTop (mkF m 31 #[.val (.ref x), .val (.long mx), .second, .val (.long a), .second, .val (.int (Int32.ofNat i)), .val (.int d6)] [(.int (48 : Int32)), (.int (cs.getD i 0))])) _
  refine XS.isub X2.here hx rfl (hb hby d8_31) rfl ?_
  show Steps p.tables e below (T2.setTop (mkF m 32 #[.val (.ref x), .val (.long mx), .second, .val (.long a), .second, .val (.int (Int32.ofNat i)), .val (.int d6)] [(.int ((cs.getD i 0) - (48 : Int32)))])) _
  refine XS.istore X2.here hx rfl (hb hby d8_32) rfl (l' := #[.val (.ref x), .val (.long mx), .second, .val (.long a), .second, .val (.int (Int32.ofNat i)), .val (.int ((cs.getD i 0) - (48 : Int32)))]) rfl ?_
  show Steps p.tables e below (T2.setTop (mkF m 34 #[.val (.ref x), .val (.long mx), .second, .val (.long a), .second, .val (.int (Int32.ofNat i)), .val (.int ((cs.getD i 0) - (48 : Int32)))] [])) _
  refine XT.lloadN X2.here hx rfl (hb hby d8_34) rfl ?_
  show Steps p.tables e below (T2.setTop (mkF m 35 #[.val (.ref x), .val (.long mx), .second, .val (.long a), .second, .val (.int (Int32.ofNat i)), .val (.int ((cs.getD i 0) - (48 : Int32)))] [(.long a)])) _
  refine XT.lloadN X2.here hx rfl (hb hby d8_35) rfl ?_
  show Steps p.tables e below (T2.setTop (mkF m 36 #[.val (.ref x), .val (.long mx), .second, .val (.long a), .second, .val (.int (Int32.ofNat i)), .val (.int ((cs.getD i 0) - (48 : Int32)))] [(.long mx), (.long a)])) _
  refine X2.ldc2J hx hown (mvT hZ (hw _ (List.mem_of_getElem? (i := 101) rfl))) (g := (mkF m 36 #[.val (.ref x), .val (.long mx), .second, .val (.long a), .second, .val (.int (Int32.ofNat i)), .val (.int ((cs.getD i 0) - (48 : Int32)))] [(.long mx), (.long a)])) rfl (hb hby d8_36) ?_
  show Steps p.tables e below (T2.setTop (mkF m 39 #[.val (.ref x), .val (.long mx), .second, .val (.long a), .second, .val (.int (Int32.ofNat i)), .val (.int ((cs.getD i 0) - (48 : Int32)))] [(.long (10 : Int64)), (.long mx), (.long a)])) _
  refine XT.ldiv X2.here hx rfl (hb hby d8_39) rfl (by decide) ?_
  show Steps p.tables e below (T2.setTop (mkF m 40 #[.val (.ref x), .val (.long mx), .second, .val (.long a), .second, .val (.int (Int32.ofNat i)), .val (.int ((cs.getD i 0) - (48 : Int32)))] [(.long (mx / (10 : Int64))), (.long a)])) _
  refine XT.lcmp X2.here hx rfl (hb hby d8_40) rfl ?_
  show Steps p.tables e below (T2.setTop (mkF m 41 #[.val (.ref x), .val (.long mx), .second, .val (.long a), .second, .val (.int (Int32.ofNat i)), .val (.int ((cs.getD i 0) - (48 : Int32)))] [(.int (XT.cmpL a (mx / (10 : Int64))))])) _
  refine XS.ifYes X2.here hx rfl (pc0 := 41) (pc' := 58) rfl (hb hby d8_41) rfl h1 (by decide) (by decide) ?_
  show Steps p.tables e below (T2.setTop (mkF m 58 #[.val (.ref x), .val (.long mx), .second, .val (.long a), .second, .val (.int (Int32.ofNat i)), .val (.int ((cs.getD i 0) - (48 : Int32)))] [])) _
  exact k
set_option maxRecDepth 65536 in
set_option maxHeartbeats 40000000 in
theorem cnt_DV {p : Program} {l : Launch} {e : Env} {R : Room} {s : State} {m : MethodId} {args : Array Value} {below : List Frame} {meth : Method} {c : Code} {locs : List Loc} {cells slots : Nat} {Z : State} {a0 : Array Value} {h0 : Heap} {T0 : State} (x t : Addr) (kb : ClassId) (cs : List Int32) (N2 G1 : Int32) (G3 : Value) (mx a : Int64) (d6 : Int32) (i : Nat) (hi : i < cs.length) (hx : p.tables.exec = Jvm.exec) (hZ : Z.Warmed39 s.vm) (hw : ∀ d ∈ tables_1, d.before a0 Z = true) (hby : c.code = prog_22_method_3_code) (hml : c.maxLocals = 7) (hown : s.vm.findClass "com/example/kontrakt/kontrakt/input/Numerals" = some m.cls) (hln : ∀ d ∈ StrChars.Road.wordsLen, d.before a0 Z = true) (hch : ∀ d ∈ StrChars.Road.wordsChN, d.before a0 Z = true) (hem : ∀ d ∈ StrChars.Road.wordsEmp, d.before a0 Z = true) (E : Exa Z h0 x "java/lang/String") (V : Fld Z h0 x "java/lang/String" "value" "[B" (.ref t)) (C0 : Fld Z h0 x "java/lang/String" "coder" "B" (.int (0 : Int32))) (K : Arv Z h0 t kb .byte N2 ((cs.map (fun c => c.toInt8.toInt32)).map Value.int) (.int (0 : Int32))) (hcd : StrChars.Road.CodA cs 0 N2 ((cs.map (fun c => c.toInt8.toInt32)).map Value.int)) (hbd : ∀ c ∈ cs, ¬ c < 0 ∧ ¬ (65535 : Int32) < c) (S : Sta Z h0 "java/lang/String" "COMPACT_STRINGS" "Z" (.int G1)) (hz : ¬ G1 = 0) (F : Sta Z h0 "jdk/internal/util/Preconditions" "SIOOBE_FORMATTER" "Ljava/util/function/BiFunction;" G3) (rf : G3.isRef = true) (l0 : 0 < cs.length) (l2 : cs.length ≤ 20) (hF : 4 ≤ R.frames) (hL : 64 ≤ R.locals) (hc0 : cells ≤ R.cells) (hs0 : slots ≤ R.slots) (h1 : ifCond.holds .gt (XT.cmpL a (mx / (10 : Int64))) = false) (h2 : ifCond.holds .le (XT.cmpL ((10 : Int64) * a) (mx - (Int32.toInt64 ((cs.getD i 0) - (48 : Int32))))) = false)
    (X0 : Stand p l e R s m args below meth c T0 locs cells slots) (e0 : T0.heap = h0) : ∃ T', Stand p l e R s m args below meth c T' locs cells slots ∧ T'.heap = h0 ∧ ∀ target, Steps p.tables e below (T'.setTop (mkF m 58 #[.val (.ref x), .val (.long mx), .second, .val (.long a), .second, .val (.int (Int32.ofNat i)), .val (.int ((cs.getD i 0) - (48 : Int32)))] [])) target → Steps p.tables e below (T0.setTop (mkF m 14 #[.val (.ref x), .val (.long mx), .second, .val (.long a), .second, .val (.int (Int32.ofNat i)), .val (.int d6)] [])) target := by
  obtain ⟨cq1, kq1, qa1, qb1, qc1⟩ := isOf hZ e0 E
  obtain ⟨_, _, ⟨T1, L1, k1, n1⟩, -, X1, ⟨Lc1, hQ1, l1, y1, z1⟩, st1⟩ := X0.virtualBack hx (y := (⟨"java/lang/String", "length", "()I"⟩ : MethodName)) (z := (⟨"java/lang/String", "length", "()I"⟩ : MethodName)) hown (mvT hZ (hw _ (List.mem_of_getElem? (i := 64) rfl))) (mvT hZ (hw _ (List.mem_of_getElem? (i := 65) rfl))) (notFace_of_selects (args := #[]) (mvT hZ (hw _ (List.mem_of_getElem? (i := 67) rfl)))) (mvT hZ (hw _ (List.mem_of_getElem? (i := 67) rfl))) (mvT hZ (hw _ (List.mem_of_getElem? (i := 66) rfl))) (by decide) (StrChars.Road.lenW (W := 1) hZ hln (kI := 4) (hw _ (List.mem_of_getElem? (i := 29) rfl)) E V C0 K hcd hbd S hz (Nat.le_trans l2 (by decide)) (by omega) (by omega)) qa1 qc1 (g := (mkF m 17 #[.val (.ref x), .val (.long mx), .second, .val (.long a), .second, .val (.int (Int32.ofNat i)), .val (.int d6)] [(.ref x), (.int (Int32.ofNat i))])) rfl (by rw [hml]; rfl) (Steps.refl _) (argsL := []) (rest := [(.int (Int32.ofNat i))]) (lenOf pd_9 rfl) rfl (by show 2 * 0 + _ ≤ _; exact Nat.le_of_eq rfl) (hb hby d8_17) (fun _ _ => ⟨rfl, e0, hc0, hs0⟩)
  dsimp only [Pt.U, Pt.locs, Pt.cells, Pt.slots] at X1 l1 y1 z1 st1 hQ1
  subst l1 y1 z1
  obtain ⟨rfl, rfl, e1⟩ := hQ1
  try rw [List.append_nil] at X1
  obtain ⟨cq2, kq2, qa2, qb2, qc2⟩ := isOf hZ e1 E
  obtain ⟨_, _, ⟨T2, L2, k2, n2⟩, -, X2, ⟨Lc2, hQ2, l2, y2, z2⟩, st2⟩ := X1.virtualBack hx (y := (⟨"java/lang/String", "charAt", "(I)C"⟩ : MethodName)) (z := (⟨"java/lang/String", "charAt", "(I)C"⟩ : MethodName)) hown (mvT hZ (hw _ (List.mem_of_getElem? (i := 74) rfl))) (mvT hZ (hw _ (List.mem_of_getElem? (i := 75) rfl))) (notFace_of_selects (args := #[]) (mvT hZ (hw _ (List.mem_of_getElem? (i := 77) rfl)))) (mvT hZ (hw _ (List.mem_of_getElem? (i := 77) rfl))) (mvT hZ (hw _ (List.mem_of_getElem? (i := 76) rfl))) (by decide) (StrChars.Road.chN (W := 0) hZ hch (kI := 4) (hw _ (List.mem_of_getElem? (i := 29) rfl)) E V C0 K hcd hbd S hz F rf (Nat.le_trans l2 (by decide)) (i := i) hi (j := (Int32.ofNat i)) rfl (by omega) (by omega)) qa2 qc2 (g := (mkF m 26 #[.val (.ref x), .val (.long mx), .second, .val (.long a), .second, .val (.int (Int32.ofNat i)), .val (.int d6)] [(.int (Int32.ofNat i)), (.ref x)])) rfl (by rw [hml]; rfl) (Steps.refl _) (argsL := [(.int (Int32.ofNat i))]) (rest := []) (lenOf pd_10 rfl) rfl (by show 2 * 0 + _ ≤ _; exact Nat.le_of_eq rfl) (hb hby d8_26) (fun _ _ => ⟨rfl, e1, hc0, hs0⟩)
  dsimp only [Pt.U, Pt.locs, Pt.cells, Pt.slots] at X2 l2 y2 z2 st2 hQ2
  subst l2 y2 z2
  obtain ⟨rfl, rfl, e2⟩ := hQ2
  try rw [List.append_nil] at X2
  refine ⟨T2, X2, e2, fun target k => ?_⟩
  show Steps p.tables e below (T0.setTop (mkF m 14 #[.val (.ref x), .val (.long mx), .second, .val (.long a), .second, .val (.int (Int32.ofNat i)), .val (.int d6)] [])) _
  refine XS.iload X0.here hx rfl (hb hby d8_14) rfl ?_
  show Steps p.tables e below (T0.setTop (mkF m 16 #[.val (.ref x), .val (.long mx), .second, .val (.long a), .second, .val (.int (Int32.ofNat i)), .val (.int d6)] [(.int (Int32.ofNat i))])) _
  refine XS.aloadN X0.here hx rfl (hb hby d8_16) rfl rfl ?_
  show Steps p.tables e below (T0.setTop (mkF m 17 #[.val (.ref x), .val (.long mx), .second, .val (.long a), .second, .val (.int (Int32.ofNat i)), .val (.int d6)] [(.ref x), (.int (Int32.ofNat i))])) _
  refine st1.trans ?_
  show Steps p.tables e below (T1.setTop (mkF m 20 #[.val (.ref x), .val (.long mx), .second, .val (.long a), .second, .val (.int (Int32.ofNat i)), .val (.int d6)] [(.int (Int32.ofNat cs.length)), (.int (Int32.ofNat i))])) _
  refine XS.icmpNo X1.here hx rfl (hb hby d8_20) rfl (own_notge hi l2) ?_
  show Steps p.tables e below (T1.setTop (mkF m 23 #[.val (.ref x), .val (.long mx), .second, .val (.long a), .second, .val (.int (Int32.ofNat i)), .val (.int d6)] [])) _
  refine XS.aloadN X1.here hx rfl (hb hby d8_23) rfl rfl ?_
  show Steps p.tables e below (T1.setTop (mkF m 24 #[.val (.ref x), .val (.long mx), .second, .val (.long a), .second, .val (.int (Int32.ofNat i)), .val (.int d6)] [(.ref x)])) _
  refine XS.iload X1.here hx rfl (hb hby d8_24) rfl ?_
  show Steps p.tables e below (T1.setTop (mkF m 26 #[.val (.ref x), .val (.long mx), .second, .val (.long a), .second, .val (.int (Int32.ofNat i)), .val (.int d6)] [(.int (Int32.ofNat i)), (.ref x)])) _
  refine st2.trans ?_
  show Steps p.tables e below (T2.setTop (mkF m 29 #[.val (.ref x), .val (.long mx), .second, .val (.long a), .second, .val (.int (Int32.ofNat i)), .val (.int d6)] [(.int (cs.getD i 0))])) _
  refine XS.bipush X2.here hx rfl (hb hby d8_29) ?_
  show Steps p.tables e below (T2.setTop (mkF m 31 #[.val (.ref x), .val (.long mx), .second, .val (.long a), .second, .val (.int (Int32.ofNat i)), .val (.int d6)] [(.int (48 : Int32)), (.int (cs.getD i 0))])) _
  refine XS.isub X2.here hx rfl (hb hby d8_31) rfl ?_
  show Steps p.tables e below (T2.setTop (mkF m 32 #[.val (.ref x), .val (.long mx), .second, .val (.long a), .second, .val (.int (Int32.ofNat i)), .val (.int d6)] [(.int ((cs.getD i 0) - (48 : Int32)))])) _
  refine XS.istore X2.here hx rfl (hb hby d8_32) rfl (l' := #[.val (.ref x), .val (.long mx), .second, .val (.long a), .second, .val (.int (Int32.ofNat i)), .val (.int ((cs.getD i 0) - (48 : Int32)))]) rfl ?_
  show Steps p.tables e below (T2.setTop (mkF m 34 #[.val (.ref x), .val (.long mx), .second, .val (.long a), .second, .val (.int (Int32.ofNat i)), .val (.int ((cs.getD i 0) - (48 : Int32)))] [])) _
  refine XT.lloadN X2.here hx rfl (hb hby d8_34) rfl ?_
  show Steps p.tables e below (T2.setTop (mkF m 35 #[.val (.ref x), .val (.long mx), .second, .val (.long a), .second, .val (.int (Int32.ofNat i)), .val (.int ((cs.getD i 0) - (48 : Int32)))] [(.long a)])) _
  refine XT.lloadN X2.here hx rfl (hb hby d8_35) rfl ?_
  show Steps p.tables e below (T2.setTop (mkF m 36 #[.val (.ref x), .val (.long mx), .second, .val (.long a), .second, .val (.int (Int32.ofNat i)), .val (.int ((cs.getD i 0) - (48 : Int32)))] [(.long mx), (.long a)])) _
  refine X2.ldc2J hx hown (mvT hZ (hw _ (List.mem_of_getElem? (i := 101) rfl))) (g := (mkF m 36 #[.val (.ref x), .val (.long mx), .second, .val (.long a), .second, .val (.int (Int32.ofNat i)), .val (.int ((cs.getD i 0) - (48 : Int32)))] [(.long mx), (.long a)])) rfl (hb hby d8_36) ?_
  show Steps p.tables e below (T2.setTop (mkF m 39 #[.val (.ref x), .val (.long mx), .second, .val (.long a), .second, .val (.int (Int32.ofNat i)), .val (.int ((cs.getD i 0) - (48 : Int32)))] [(.long (10 : Int64)), (.long mx), (.long a)])) _
  refine XT.ldiv X2.here hx rfl (hb hby d8_39) rfl (by decide) ?_
  show Steps p.tables e below (T2.setTop (mkF m 40 #[.val (.ref x), .val (.long mx), .second, .val (.long a), .second, .val (.int (Int32.ofNat i)), .val (.int ((cs.getD i 0) - (48 : Int32)))] [(.long (mx / (10 : Int64))), (.long a)])) _
  refine XT.lcmp X2.here hx rfl (hb hby d8_40) rfl ?_
  show Steps p.tables e below (T2.setTop (mkF m 41 #[.val (.ref x), .val (.long mx), .second, .val (.long a), .second, .val (.int (Int32.ofNat i)), .val (.int ((cs.getD i 0) - (48 : Int32)))] [(.int (XT.cmpL a (mx / (10 : Int64))))])) _
  refine XS.ifNo X2.here hx rfl (hb hby d8_41) rfl h1 ?_
  show Steps p.tables e below (T2.setTop (mkF m 44 #[.val (.ref x), .val (.long mx), .second, .val (.long a), .second, .val (.int (Int32.ofNat i)), .val (.int ((cs.getD i 0) - (48 : Int32)))] [])) _
  refine X2.ldc2J hx hown (mvT hZ (hw _ (List.mem_of_getElem? (i := 101) rfl))) (g := (mkF m 44 #[.val (.ref x), .val (.long mx), .second, .val (.long a), .second, .val (.int (Int32.ofNat i)), .val (.int ((cs.getD i 0) - (48 : Int32)))] [])) rfl (hb hby d8_44) ?_
  show Steps p.tables e below (T2.setTop (mkF m 47 #[.val (.ref x), .val (.long mx), .second, .val (.long a), .second, .val (.int (Int32.ofNat i)), .val (.int ((cs.getD i 0) - (48 : Int32)))] [(.long (10 : Int64))])) _
  refine XT.lloadN X2.here hx rfl (hb hby d8_47) rfl ?_
  show Steps p.tables e below (T2.setTop (mkF m 48 #[.val (.ref x), .val (.long mx), .second, .val (.long a), .second, .val (.int (Int32.ofNat i)), .val (.int ((cs.getD i 0) - (48 : Int32)))] [(.long a), (.long (10 : Int64))])) _
  refine XT.lmul X2.here hx rfl (hb hby d8_48) rfl ?_
  show Steps p.tables e below (T2.setTop (mkF m 49 #[.val (.ref x), .val (.long mx), .second, .val (.long a), .second, .val (.int (Int32.ofNat i)), .val (.int ((cs.getD i 0) - (48 : Int32)))] [(.long ((10 : Int64) * a))])) _
  refine XT.lloadN X2.here hx rfl (hb hby d8_49) rfl ?_
  show Steps p.tables e below (T2.setTop (mkF m 50 #[.val (.ref x), .val (.long mx), .second, .val (.long a), .second, .val (.int (Int32.ofNat i)), .val (.int ((cs.getD i 0) - (48 : Int32)))] [(.long mx), (.long ((10 : Int64) * a))])) _
  refine XS.iload X2.here hx rfl (hb hby d8_50) rfl ?_
  show Steps p.tables e below (T2.setTop (mkF m 52 #[.val (.ref x), .val (.long mx), .second, .val (.long a), .second, .val (.int (Int32.ofNat i)), .val (.int ((cs.getD i 0) - (48 : Int32)))] [(.int ((cs.getD i 0) - (48 : Int32))), (.long mx), (.long ((10 : Int64) * a))])) _
  refine XT.i2l X2.here hx rfl (hb hby d8_52) rfl ?_
  show Steps p.tables e below (T2.setTop (mkF m 53 #[.val (.ref x), .val (.long mx), .second, .val (.long a), .second, .val (.int (Int32.ofNat i)), .val (.int ((cs.getD i 0) - (48 : Int32)))] [(.long (Int32.toInt64 ((cs.getD i 0) - (48 : Int32)))), (.long mx), (.long ((10 : Int64) * a))])) _
  refine XT.lsub X2.here hx rfl (hb hby d8_53) rfl ?_
  show Steps p.tables e below (T2.setTop (mkF m 54 #[.val (.ref x), .val (.long mx), .second, .val (.long a), .second, .val (.int (Int32.ofNat i)), .val (.int ((cs.getD i 0) - (48 : Int32)))] [(.long (mx - (Int32.toInt64 ((cs.getD i 0) - (48 : Int32))))), (.long ((10 : Int64) * a))])) _
  refine XT.lcmp X2.here hx rfl (hb hby d8_54) rfl ?_
  show Steps p.tables e below (T2.setTop (mkF m 55 #[.val (.ref x), .val (.long mx), .second, .val (.long a), .second, .val (.int (Int32.ofNat i)), .val (.int ((cs.getD i 0) - (48 : Int32)))] [(.int (XT.cmpL ((10 : Int64) * a) (mx - (Int32.toInt64 ((cs.getD i 0) - (48 : Int32))))))])) _
  refine XS.ifNo X2.here hx rfl (hb hby d8_55) rfl h2 ?_
  show Steps p.tables e below (T2.setTop (mkF m 58 #[.val (.ref x), .val (.long mx), .second, .val (.long a), .second, .val (.int (Int32.ofNat i)), .val (.int ((cs.getD i 0) - (48 : Int32)))] [])) _
  exact k
set_option maxRecDepth 65536 in
set_option maxHeartbeats 40000000 in
theorem cnt_CV {p : Program} {l : Launch} {e : Env} {R : Room} {s : State} {m : MethodId} {args : Array Value} {below : List Frame} {meth : Method} {c : Code} {locs : List Loc} {cells slots : Nat} {Z : State} {a0 : Array Value} {h0 : Heap} {T0 : State} (x t : Addr) (kb : ClassId) (cs : List Int32) (N2 G1 : Int32) (G3 : Value) (mx a : Int64) (d6 : Int32) (i : Nat) (hi : i = cs.length) (hx : p.tables.exec = Jvm.exec) (hZ : Z.Warmed39 s.vm) (hw : ∀ d ∈ tables_1, d.before a0 Z = true) (hby : c.code = prog_22_method_3_code) (hml : c.maxLocals = 7) (hown : s.vm.findClass "com/example/kontrakt/kontrakt/input/Numerals" = some m.cls) (hln : ∀ d ∈ StrChars.Road.wordsLen, d.before a0 Z = true) (hch : ∀ d ∈ StrChars.Road.wordsChN, d.before a0 Z = true) (hem : ∀ d ∈ StrChars.Road.wordsEmp, d.before a0 Z = true) (E : Exa Z h0 x "java/lang/String") (V : Fld Z h0 x "java/lang/String" "value" "[B" (.ref t)) (C0 : Fld Z h0 x "java/lang/String" "coder" "B" (.int (0 : Int32))) (K : Arv Z h0 t kb .byte N2 ((cs.map (fun c => c.toInt8.toInt32)).map Value.int) (.int (0 : Int32))) (hcd : StrChars.Road.CodA cs 0 N2 ((cs.map (fun c => c.toInt8.toInt32)).map Value.int)) (hbd : ∀ c ∈ cs, ¬ c < 0 ∧ ¬ (65535 : Int32) < c) (S : Sta Z h0 "java/lang/String" "COMPACT_STRINGS" "Z" (.int G1)) (hz : ¬ G1 = 0) (F : Sta Z h0 "jdk/internal/util/Preconditions" "SIOOBE_FORMATTER" "Ljava/util/function/BiFunction;" G3) (rf : G3.isRef = true) (l0 : 0 < cs.length) (l2 : cs.length ≤ 20) (hF : 4 ≤ R.frames) (hL : 64 ≤ R.locals) (hc0 : cells ≤ R.cells) (hs0 : slots ≤ R.slots) 
    (X0 : Stand p l e R s m args below meth c T0 locs cells slots) (e0 : T0.heap = h0) : ∃ T', Stand p l e R s m args below meth c T' locs cells slots ∧ T'.heap = h0 ∧ ∀ target, Steps p.tables e below (T'.setTop (mkF m 76 #[.val (.ref x), .val (.long mx), .second, .val (.long a), .second, .val (.int (Int32.ofNat i)), .val (.int d6)] [])) target → Steps p.tables e below (T0.setTop (mkF m 14 #[.val (.ref x), .val (.long mx), .second, .val (.long a), .second, .val (.int (Int32.ofNat i)), .val (.int d6)] [])) target := by
  obtain ⟨cq1, kq1, qa1, qb1, qc1⟩ := isOf hZ e0 E
  obtain ⟨_, _, ⟨T1, L1, k1, n1⟩, -, X1, ⟨Lc1, hQ1, l1, y1, z1⟩, st1⟩ := X0.virtualBack hx (y := (⟨"java/lang/String", "length", "()I"⟩ : MethodName)) (z := (⟨"java/lang/String", "length", "()I"⟩ : MethodName)) hown (mvT hZ (hw _ (List.mem_of_getElem? (i := 64) rfl))) (mvT hZ (hw _ (List.mem_of_getElem? (i := 65) rfl))) (notFace_of_selects (args := #[]) (mvT hZ (hw _ (List.mem_of_getElem? (i := 67) rfl)))) (mvT hZ (hw _ (List.mem_of_getElem? (i := 67) rfl))) (mvT hZ (hw _ (List.mem_of_getElem? (i := 66) rfl))) (by decide) (StrChars.Road.lenW (W := 1) hZ hln (kI := 4) (hw _ (List.mem_of_getElem? (i := 29) rfl)) E V C0 K hcd hbd S hz (Nat.le_trans l2 (by decide)) (by omega) (by omega)) qa1 qc1 (g := (mkF m 17 #[.val (.ref x), .val (.long mx), .second, .val (.long a), .second, .val (.int (Int32.ofNat i)), .val (.int d6)] [(.ref x), (.int (Int32.ofNat i))])) rfl (by rw [hml]; rfl) (Steps.refl _) (argsL := []) (rest := [(.int (Int32.ofNat i))]) (lenOf pd_9 rfl) rfl (by show 2 * 0 + _ ≤ _; exact Nat.le_of_eq rfl) (hb hby d8_17) (fun _ _ => ⟨rfl, e0, hc0, hs0⟩)
  dsimp only [Pt.U, Pt.locs, Pt.cells, Pt.slots] at X1 l1 y1 z1 st1 hQ1
  subst l1 y1 z1
  obtain ⟨rfl, rfl, e1⟩ := hQ1
  try rw [List.append_nil] at X1
  refine ⟨T1, X1, e1, fun target k => ?_⟩
  show Steps p.tables e below (T0.setTop (mkF m 14 #[.val (.ref x), .val (.long mx), .second, .val (.long a), .second, .val (.int (Int32.ofNat i)), .val (.int d6)] [])) _
  refine XS.iload X0.here hx rfl (hb hby d8_14) rfl ?_
  show Steps p.tables e below (T0.setTop (mkF m 16 #[.val (.ref x), .val (.long mx), .second, .val (.long a), .second, .val (.int (Int32.ofNat i)), .val (.int d6)] [(.int (Int32.ofNat i))])) _
  refine XS.aloadN X0.here hx rfl (hb hby d8_16) rfl rfl ?_
  show Steps p.tables e below (T0.setTop (mkF m 17 #[.val (.ref x), .val (.long mx), .second, .val (.long a), .second, .val (.int (Int32.ofNat i)), .val (.int d6)] [(.ref x), (.int (Int32.ofNat i))])) _
  refine st1.trans ?_
  show Steps p.tables e below (T1.setTop (mkF m 20 #[.val (.ref x), .val (.long mx), .second, .val (.long a), .second, .val (.int (Int32.ofNat i)), .val (.int d6)] [(.int (Int32.ofNat cs.length)), (.int (Int32.ofNat i))])) _
  refine XS.icmpYes X1.here hx rfl (pc0 := 20) (pc' := 76) rfl (hb hby d8_20) rfl (own_isge hi) (by decide) (by decide) ?_
  show Steps p.tables e below (T1.setTop (mkF m 76 #[.val (.ref x), .val (.long mx), .second, .val (.long a), .second, .val (.int (Int32.ofNat i)), .val (.int d6)] [])) _
  exact k
set_option maxRecDepth 65536 in
set_option maxHeartbeats 40000000 in
theorem cnt_loop {p : Program} {l : Launch} {e : Env} {R : Room} {s : State} {m : MethodId} {args : Array Value} {below : List Frame} {meth : Method} {c : Code} {locs : List Loc} {cells slots : Nat} {Z : State} {a0 : Array Value} {h0 : Heap} (x t : Addr) (kb : ClassId) (cs : List Int32) (N2 G1 : Int32) (G3 : Value) (mx : Int64) (hx : p.tables.exec = Jvm.exec) (hZ : Z.Warmed39 s.vm) (hw : ∀ d ∈ tables_1, d.before a0 Z = true) (hby : c.code = prog_22_method_3_code) (hml : c.maxLocals = 7) (hown : s.vm.findClass "com/example/kontrakt/kontrakt/input/Numerals" = some m.cls) (hln : ∀ d ∈ StrChars.Road.wordsLen, d.before a0 Z = true) (hch : ∀ d ∈ StrChars.Road.wordsChN, d.before a0 Z = true) (hem : ∀ d ∈ StrChars.Road.wordsEmp, d.before a0 Z = true) (E : Exa Z h0 x "java/lang/String") (V : Fld Z h0 x "java/lang/String" "value" "[B" (.ref t)) (C0 : Fld Z h0 x "java/lang/String" "coder" "B" (.int (0 : Int32))) (K : Arv Z h0 t kb .byte N2 ((cs.map (fun c => c.toInt8.toInt32)).map Value.int) (.int (0 : Int32))) (hcd : StrChars.Road.CodA cs 0 N2 ((cs.map (fun c => c.toInt8.toInt32)).map Value.int)) (hbd : ∀ c ∈ cs, ¬ c < 0 ∧ ¬ (65535 : Int32) < c) (S : Sta Z h0 "java/lang/String" "COMPACT_STRINGS" "Z" (.int G1)) (hz : ¬ G1 = 0) (F : Sta Z h0 "jdk/internal/util/Preconditions" "SIOOBE_FORMATTER" "Ljava/util/function/BiFunction;" G3) (rf : G3.isRef = true) (l0 : 0 < cs.length) (l2 : cs.length ≤ 20) (hF : 4 ≤ R.frames) (hL : 64 ≤ R.locals) (hc0 : cells ≤ R.cells) (hs0 : slots ≤ R.slots) (k : Nat) :
    ∀ (i : Nat) (T0 : State) (a : Int64) (s6 : Slot), i + k = cs.length → (s6 = .unset ∨ ∃ d : Int32, s6 = .val (.int d)) → Stand p l e R s m args below meth c T0 locs cells slots → T0.heap = h0 →
      (∃ v : Int64, own_cnt mx (cs.drop i) a = some v ∧ ∃ (T' : State) (j : Int32) (s6' : Slot), Stand p l e R s m args below meth c T' locs cells slots ∧ T'.heap = h0 ∧ ∀ target, Steps p.tables e below (T'.setTop (mkF m 76 #[.val (.ref x), .val (.long mx), .second, .val (.long v), .second, .val (.int j), s6'] [])) target → Steps p.tables e below (T0.setTop (mkF m 14 #[.val (.ref x), .val (.long mx), .second, .val (.long a), .second, .val (.int (Int32.ofNat i)), s6] [])) target) ∨
      (own_cnt mx (cs.drop i) a = none ∧ ∃ (T' : State) (a' : Int64) (j : Int32) (s6' : Slot), Stand p l e R s m args below meth c T' locs cells slots ∧ T'.heap = h0 ∧ ∀ target, Steps p.tables e below (T'.setTop (mkF m 58 #[.val (.ref x), .val (.long mx), .second, .val (.long a'), .second, .val (.int j), s6'] [])) target → Steps p.tables e below (T0.setTop (mkF m 14 #[.val (.ref x), .val (.long mx), .second, .val (.long a), .second, .val (.int (Int32.ofNat i)), s6] [])) target) := by
  induction k with
  | zero =>
    intro i T0 a s6 hk h6 X0 e0
    have en : own_cnt mx (cs.drop i) a = some a := by rw [List.drop_eq_nil_of_le (by omega)]; rfl
    rcases h6 with rfl | ⟨d6, rfl⟩
    · obtain ⟨T1, X1, e1, st⟩ := cnt_CU x t kb cs N2 G1 G3 mx a 0 i (by omega) hx hZ hw hby hml hown hln hch hem E V C0 K hcd hbd S hz F rf l0 l2 hF hL hc0 hs0 X0 e0
      exact Or.inl ⟨a, en, T1, Int32.ofNat i, _, X1, e1, fun target q => st target q⟩
    · obtain ⟨T1, X1, e1, st⟩ := cnt_CV x t kb cs N2 G1 G3 mx a d6 i (by omega) hx hZ hw hby hml hown hln hch hem E V C0 K hcd hbd S hz F rf l0 l2 hF hL hc0 hs0 X0 e0
      exact Or.inl ⟨a, en, T1, Int32.ofNat i, _, X1, e1, fun target q => st target q⟩
  | succ k ih =>
    intro i T0 a s6 hk h6 X0 e0
    have hi : i < cs.length := by omega
    have eg : cs.getD i 0 = cs[i] := own_getD cs hi
    have ed : cs.drop i = cs.getD i 0 :: cs.drop (i + 1) := by rw [eg]; exact List.drop_eq_getElem_cons hi
    rcases h6 with rfl | ⟨d6, rfl⟩
    · have _h := hi
      by_cases h1 : ifCond.holds .gt (XT.cmpL a (mx / (10 : Int64))) = true
      · obtain ⟨T1, X1, e1, st⟩ := cnt_BU x t kb cs N2 G1 G3 mx a 0 i hi hx hZ hw hby hml hown hln hch hem E V C0 K hcd hbd S hz F rf l0 l2 hF hL hc0 hs0 h1 X0 e0
        refine Or.inr ⟨by rw [ed]; unfold own_cnt; rw [if_pos h1], T1, a, Int32.ofNat i, _, X1, e1, fun target q => st target q⟩
      · by_cases h2 : ifCond.holds .le (XT.cmpL ((10 : Int64) * a) (mx - (Int32.toInt64 ((cs.getD i 0) - (48 : Int32))))) = true
        · obtain ⟨T1, X1, e1, st⟩ := cnt_AU x t kb cs N2 G1 G3 mx a 0 i hi hx hZ hw hby hml hown hln hch hem E V C0 K hcd hbd S hz F rf l0 l2 hF hL hc0 hs0 (Bool.eq_false_iff.mpr h1) h2 X0 e0
          have en : own_cnt mx (cs.drop i) a = own_cnt mx (cs.drop (i + 1)) ((10 : Int64) * a + own_dig (cs.getD i 0)) := by
            rw [ed]; show (if _ then _ else if _ then _ else _) = _; rw [if_neg h1]; exact if_pos h2
          rcases ih (i + 1) T1 ((10 : Int64) * a + own_dig (cs.getD i 0)) _ (by omega) (Or.inr ⟨_, rfl⟩) X1 e1 with ⟨v, hv, T2, j, s6', X2, e2, st2⟩ | ⟨hv, T2, a2, j, s6', X2, e2, st2⟩
          · refine Or.inl ⟨v, by rw [en]; exact hv, T2, j, s6', X2, e2, fun target q => st target ?_⟩
            rw [own_one]
            exact st2 target q
          · refine Or.inr ⟨by rw [en]; exact hv, T2, a2, j, s6', X2, e2, fun target q => st target ?_⟩
            rw [own_one]
            exact st2 target q
        · obtain ⟨T1, X1, e1, st⟩ := cnt_DU x t kb cs N2 G1 G3 mx a 0 i hi hx hZ hw hby hml hown hln hch hem E V C0 K hcd hbd S hz F rf l0 l2 hF hL hc0 hs0 (Bool.eq_false_iff.mpr h1) (Bool.eq_false_iff.mpr h2) X0 e0
          refine Or.inr ⟨by rw [ed]; show (if _ then _ else if _ then _ else _) = _; rw [if_neg h1]; exact if_neg h2, T1, a, Int32.ofNat i, _, X1, e1, fun target q => st target q⟩
    · have _h := hi
      by_cases h1 : ifCond.holds .gt (XT.cmpL a (mx / (10 : Int64))) = true
      · obtain ⟨T1, X1, e1, st⟩ := cnt_BV x t kb cs N2 G1 G3 mx a d6 i hi hx hZ hw hby hml hown hln hch hem E V C0 K hcd hbd S hz F rf l0 l2 hF hL hc0 hs0 h1 X0 e0
        refine Or.inr ⟨by rw [ed]; unfold own_cnt; rw [if_pos h1], T1, a, Int32.ofNat i, _, X1, e1, fun target q => st target q⟩
      · by_cases h2 : ifCond.holds .le (XT.cmpL ((10 : Int64) * a) (mx - (Int32.toInt64 ((cs.getD i 0) - (48 : Int32))))) = true
        · obtain ⟨T1, X1, e1, st⟩ := cnt_AV x t kb cs N2 G1 G3 mx a d6 i hi hx hZ hw hby hml hown hln hch hem E V C0 K hcd hbd S hz F rf l0 l2 hF hL hc0 hs0 (Bool.eq_false_iff.mpr h1) h2 X0 e0
          have en : own_cnt mx (cs.drop i) a = own_cnt mx (cs.drop (i + 1)) ((10 : Int64) * a + own_dig (cs.getD i 0)) := by
            rw [ed]; show (if _ then _ else if _ then _ else _) = _; rw [if_neg h1]; exact if_pos h2
          rcases ih (i + 1) T1 ((10 : Int64) * a + own_dig (cs.getD i 0)) _ (by omega) (Or.inr ⟨_, rfl⟩) X1 e1 with ⟨v, hv, T2, j, s6', X2, e2, st2⟩ | ⟨hv, T2, a2, j, s6', X2, e2, st2⟩
          · refine Or.inl ⟨v, by rw [en]; exact hv, T2, j, s6', X2, e2, fun target q => st target ?_⟩
            rw [own_one]
            exact st2 target q
          · refine Or.inr ⟨by rw [en]; exact hv, T2, a2, j, s6', X2, e2, fun target q => st target ?_⟩
            rw [own_one]
            exact st2 target q
        · obtain ⟨T1, X1, e1, st⟩ := cnt_DV x t kb cs N2 G1 G3 mx a d6 i hi hx hZ hw hby hml hown hln hch hem E V C0 K hcd hbd S hz F rf l0 l2 hF hL hc0 hs0 (Bool.eq_false_iff.mpr h1) (Bool.eq_false_iff.mpr h2) X0 e0
          refine Or.inr ⟨by rw [ed]; show (if _ then _ else if _ then _ else _) = _; rw [if_neg h1]; exact if_neg h2, T1, a, Int32.ofNat i, _, X1, e1, fun target q => st target q⟩
theorem ef_cntB (m : MethodId) (x : Addr) (mx : Int64) : entryFrame m #[(.ref x), (.long mx)] 7 = (mkF m 0 #[.val (.ref x), .val (.long mx), .second, .unset, .unset, .unset, .unset] []) := by first | (simp [entryFrame, mkF, argsToLocals, Value.category]; done) | rfl
def Q_cntB (Z : State) (x : Addr) (mx : Int64) (t : Addr) (kb : ClassId) (cs : List Int32) (N2 : Int32) (G1 : Int32) (G3 : Value) (h0 : Heap) (n0 : Nat) (v : Option Value) (h : Heap) (L : List Loc) : Prop := v = some (.long (0 : Int64)) ∧ Fr n0 L ∧ h = h0
set_option maxRecDepth 65536 in
set_option maxHeartbeats 40000000 in
theorem rm_cntB (l : Launch) (Z : State) (a0 : Array Value) (hw : ∀ d ∈ tables_1, d.before a0 Z = true) (ws : List Jvm.Cond) (x : Addr) (mx : Int64) (t : Addr) (kb : ClassId) (cs : List Int32) (N2 : Int32) (G1 : Int32) (G3 : Value) (h0 : Heap) (n0 : Nat) (Z0 : n0 ≤ h0.size)  (E : Exa Z h0 x "java/lang/String") (V : Fld Z h0 x "java/lang/String" "value" "[B" (.ref t)) (C0 : Fld Z h0 x "java/lang/String" "coder" "B" (.int (0 : Int32))) (K : Arv Z h0 t kb .byte N2 ((cs.map (fun c => c.toInt8.toInt32)).map Value.int) (.int (0 : Int32))) (hcd : StrChars.Road.CodA cs 0 N2 ((cs.map (fun c => c.toInt8.toInt32)).map Value.int)) (hbd : ∀ c ∈ cs, ¬ c < 0 ∧ ¬ (65535 : Int32) < c) (S : Sta Z h0 "java/lang/String" "COMPACT_STRINGS" "Z" (.int G1)) (hz : ¬ G1 = 0) (F : Sta Z h0 "jdk/internal/util/Preconditions" "SIOOBE_FORMATTER" "Ljava/util/function/BiFunction;" G3) (rf : G3.isRef = true) (l0 : 0 < cs.length) (l2 : cs.length ≤ 20) (hg : ¬ cs.all own_good = true)  :
    MetFree l (⟨"com/example/kontrakt/kontrakt/input/Numerals", "count", "(Ljava/lang/String;J)J"⟩ : MethodName) (head1 (Jvm.Cond.code (⟨"com/example/kontrakt/kontrakt/input/Numerals", "count", "(Ljava/lang/String;J)J"⟩ : MethodName) prog_22_method_3_code 7 (some .long) :: ws) ({ frames := 5, cells := 0, slots := 0, locals := 90 } : Room)) (fun a U => a = #[(.ref x), (.long mx)] ∧ Z.Warmed39 U.vm ∧ U.heap = h0) (fun _ _ _ _ _ => True) (fun _ U o U' => ∃ v L, o = .returned v ∧ Q_cntB Z x mx t kb cs N2 G1 G3 h0 n0 v U'.heap L ∧ FrameEnd U o U' L ({ frames := 5, cells := 0, slots := 0, locals := 90 } : Room).cells ({ frames := 5, cells := 0, slots := 0, locals := 90 } : Room).slots) := by
  refine MetFree.of_bodySF (plainFor_of_name pn_0) hisR ?_
  intro p e s m args below meth c s₁ Bd hml0 hP hK
  obtain ⟨rfl, hZ, hh⟩ := hP
  have hx := Bd.exec
  have hby := Bd.bytes
  have hml : c.maxLocals = 7 := hml0
  have hown : s.vm.findClass "com/example/kontrakt/kontrakt/input/Numerals" = some m.cls := findClass_of_methodNamed Bd.named
  have hnm := (name_of_methodNamed Bd.named Bd.method).1
  have X0 : Stand p l e ({ frames := 5, cells := 0, slots := 0, locals := 90 } : Room) s m #[(.ref x), (.long mx)] below meth c s₁ [] 0 0 := Stand.of_body Bd
  have e0 : s₁.heap = h0 := by rw [← hh, Bd.state]; rfl
  have N0 := Fr.nil n0
  have pre0 : ∀ t, Steps p.tables e below (s₁.setTop (mkF m 0 #[.val (.ref x), .val (.long mx), .second, .unset, .unset, .unset, .unset] [])) t → Steps p.tables e below (s₁.setTop (entryFrame m #[(.ref x), (.long mx)] 7)) t := fun t k => castTop (ef_cntB m x mx) k
  have hln : ∀ d ∈ StrChars.Road.wordsLen, d.before a0 Z = true := fun d hd => hw d ((by decide +kernel : ∀ d ∈ StrChars.Road.wordsLen, d ∈ tables_1) d hd)
  have hch : ∀ d ∈ StrChars.Road.wordsChN, d.before a0 Z = true := fun d hd => hw d ((by decide +kernel : ∀ d ∈ StrChars.Road.wordsChN, d ∈ tables_1) d hd)
  have hem : ∀ d ∈ StrChars.Road.wordsEmp, d.before a0 Z = true := fun d hd => hw d ((by decide +kernel : ∀ d ∈ StrChars.Road.wordsEmp, d ∈ tables_1) d hd)
  obtain ⟨_, _, ⟨T1, L1, k1, n1⟩, -, X1, ⟨Lc1, hQ1, l1, y1, z1⟩, st1⟩ := Jvm.LawKit.callS X0 hx (y := (⟨"com/example/kontrakt/kontrakt/input/Numerals", "isDigits", "(Ljava/lang/String;)Z"⟩ : MethodName)) hown (mvT hZ (hw _ (List.mem_of_getElem? (i := 61) rfl))) (mvT hZ (hw _ (List.mem_of_getElem? (i := 62) rfl))) (mvT hZ (hw _ (List.mem_of_getElem? (i := 59) rfl))) (mvT hZ (hw _ (List.mem_of_getElem? (i := 63) rfl))) (by decide) (backOf (W := 0) (rm_isd l Z a0 hw [] x t kb cs N2 G1 G3 (h0) n0 Z0  E V C0 K hcd hbd S hz F rf l0 l2) hZ (hw _ (List.mem_of_getElem? (i := 63) rfl)) (hw _ (List.mem_of_getElem? (i := 59) rfl)) (by decide) (by decide)) (g := (mkF m 1 #[.val (.ref x), .val (.long mx), .second, .unset, .unset, .unset, .unset] [(.ref x)])) rfl (by rw [hml]; rfl) (argsL := [(.ref x)]) (rest := []) (lenOf pd_1 rfl) rfl (by show 2 * 0 + _ ≤ _; exact Nat.le_of_eq rfl) (hb hby d8_1) (fun _ _ => ⟨rfl, e0, (by decide : 0 + 0 ≤ _), (by decide : 0 + 0 ≤ _)⟩)
  dsimp only [Pt.U, Pt.locs, Pt.cells, Pt.slots] at X1 l1 y1 z1 st1 hQ1
  rw [l1, y1, z1] at X1
  replace X1 : Stand _ _ _ _ _ _ _ _ _ _ _ _ 0 0 := X1
  obtain ⟨vq1, N1, e1⟩ := hQ1
  rw [vq1] at st1
  have Nn1 := Fr.app N0 N1
  obtain ⟨fs, hr, hrun, hended, hW, hsame⟩ := X1.leave (v := some (.long (0 : Int64))) (fun h => by rw [Bd.returns] at h; cases h)
  refine ⟨_, _, pre0 _ ?_, hrun, hended, _, _, rfl, ?_, ⟨_, rfl⟩, hW, hsame.mono (Nat.le_of_ble_eq_true rfl) (Nat.le_of_ble_eq_true rfl)⟩
  · show Steps p.tables e below (s₁.setTop (mkF m 0 #[.val (.ref x), .val (.long mx), .second, .unset, .unset, .unset, .unset] [])) _
    refine XS.aloadN X0.here hx rfl (hb hby d8_0) rfl rfl ?_
    show Steps p.tables e below (s₁.setTop (mkF m 1 #[.val (.ref x), .val (.long mx), .second, .unset, .unset, .unset, .unset] [(.ref x)])) _
    refine st1 _ ?_
    show Steps p.tables e below (T1.setTop (mkF m 4 #[.val (.ref x), .val (.long mx), .second, .unset, .unset, .unset, .unset] [(.int (isd_res cs))])) _
    refine XS.ifNo X1.here hx rfl (hb hby d8_4) rfl (own_isd0 hg) ?_
    show Steps p.tables e below (T1.setTop (mkF m 7 #[.val (.ref x), .val (.long mx), .second, .unset, .unset, .unset, .unset] [])) _
    refine XT.lconst X1.here hx rfl (hb hby d8_7) ?_
    show Steps p.tables e below (T1.setTop (mkF m 8 #[.val (.ref x), .val (.long mx), .second, .unset, .unset, .unset, .unset] [(.long (0 : Int64))])) _
    exact retOut X1 hx (t := .long) Bd.returns rfl (Or.inr (Or.inl ⟨rfl, rfl, _, rfl⟩)) (hb hby d8_8) hr
  · show Q_cntB Z x mx t kb cs N2 G1 G3 h0 n0 _ T1.heap _
    exact ⟨rfl, Nn1, e1⟩
theorem ef_cntS (m : MethodId) (x : Addr) (mx : Int64) : entryFrame m #[(.ref x), (.long mx)] 7 = (mkF m 0 #[.val (.ref x), .val (.long mx), .second, .unset, .unset, .unset, .unset] []) := by first | (simp [entryFrame, mkF, argsToLocals, Value.category]; done) | rfl
def Q_cntS (Z : State) (x : Addr) (mx : Int64) (t : Addr) (kb : ClassId) (cs : List Int32) (N2 : Int32) (G1 : Int32) (G3 : Value) (vr : Int64) (h0 : Heap) (n0 : Nat) (v : Option Value) (h : Heap) (L : List Loc) : Prop := v = some (.long vr) ∧ Fr n0 L ∧ h = h0
set_option maxRecDepth 65536 in
set_option maxHeartbeats 40000000 in
theorem rm_cntS (l : Launch) (Z : State) (a0 : Array Value) (hw : ∀ d ∈ tables_1, d.before a0 Z = true) (ws : List Jvm.Cond) (x : Addr) (mx : Int64) (t : Addr) (kb : ClassId) (cs : List Int32) (N2 : Int32) (G1 : Int32) (G3 : Value) (vr : Int64) (h0 : Heap) (n0 : Nat) (Z0 : n0 ≤ h0.size)  (E : Exa Z h0 x "java/lang/String") (V : Fld Z h0 x "java/lang/String" "value" "[B" (.ref t)) (C0 : Fld Z h0 x "java/lang/String" "coder" "B" (.int (0 : Int32))) (K : Arv Z h0 t kb .byte N2 ((cs.map (fun c => c.toInt8.toInt32)).map Value.int) (.int (0 : Int32))) (hcd : StrChars.Road.CodA cs 0 N2 ((cs.map (fun c => c.toInt8.toInt32)).map Value.int)) (hbd : ∀ c ∈ cs, ¬ c < 0 ∧ ¬ (65535 : Int32) < c) (S : Sta Z h0 "java/lang/String" "COMPACT_STRINGS" "Z" (.int G1)) (hz : ¬ G1 = 0) (F : Sta Z h0 "jdk/internal/util/Preconditions" "SIOOBE_FORMATTER" "Ljava/util/function/BiFunction;" G3) (rf : G3.isRef = true) (l0 : 0 < cs.length) (l2 : cs.length ≤ 20) (hg : cs.all own_good = true) (hv : own_cnt mx cs 0 = some vr)  :
    MetFree l (⟨"com/example/kontrakt/kontrakt/input/Numerals", "count", "(Ljava/lang/String;J)J"⟩ : MethodName) (head1 (Jvm.Cond.code (⟨"com/example/kontrakt/kontrakt/input/Numerals", "count", "(Ljava/lang/String;J)J"⟩ : MethodName) prog_22_method_3_code 7 (some .long) :: ws) ({ frames := 5, cells := 0, slots := 0, locals := 90 } : Room)) (fun a U => a = #[(.ref x), (.long mx)] ∧ Z.Warmed39 U.vm ∧ U.heap = h0) (fun _ _ _ _ _ => True) (fun _ U o U' => ∃ v L, o = .returned v ∧ Q_cntS Z x mx t kb cs N2 G1 G3 vr h0 n0 v U'.heap L ∧ FrameEnd U o U' L ({ frames := 5, cells := 0, slots := 0, locals := 90 } : Room).cells ({ frames := 5, cells := 0, slots := 0, locals := 90 } : Room).slots) := by
  refine MetFree.of_bodySF (plainFor_of_name pn_0) hisR ?_
  intro p e s m args below meth c s₁ Bd hml0 hP hK
  obtain ⟨rfl, hZ, hh⟩ := hP
  have hx := Bd.exec
  have hby := Bd.bytes
  have hml : c.maxLocals = 7 := hml0
  have hown : s.vm.findClass "com/example/kontrakt/kontrakt/input/Numerals" = some m.cls := findClass_of_methodNamed Bd.named
  have hnm := (name_of_methodNamed Bd.named Bd.method).1
  have X0 : Stand p l e ({ frames := 5, cells := 0, slots := 0, locals := 90 } : Room) s m #[(.ref x), (.long mx)] below meth c s₁ [] 0 0 := Stand.of_body Bd
  have e0 : s₁.heap = h0 := by rw [← hh, Bd.state]; rfl
  have N0 := Fr.nil n0
  have pre0 : ∀ t, Steps p.tables e below (s₁.setTop (mkF m 0 #[.val (.ref x), .val (.long mx), .second, .unset, .unset, .unset, .unset] [])) t → Steps p.tables e below (s₁.setTop (entryFrame m #[(.ref x), (.long mx)] 7)) t := fun t k => castTop (ef_cntS m x mx) k
  have hln : ∀ d ∈ StrChars.Road.wordsLen, d.before a0 Z = true := fun d hd => hw d ((by decide +kernel : ∀ d ∈ StrChars.Road.wordsLen, d ∈ tables_1) d hd)
  have hch : ∀ d ∈ StrChars.Road.wordsChN, d.before a0 Z = true := fun d hd => hw d ((by decide +kernel : ∀ d ∈ StrChars.Road.wordsChN, d ∈ tables_1) d hd)
  have hem : ∀ d ∈ StrChars.Road.wordsEmp, d.before a0 Z = true := fun d hd => hw d ((by decide +kernel : ∀ d ∈ StrChars.Road.wordsEmp, d ∈ tables_1) d hd)
  obtain ⟨_, _, ⟨T1, L1, k1, n1⟩, -, X1, ⟨Lc1, hQ1, l1, y1, z1⟩, st1⟩ := Jvm.LawKit.callS X0 hx (y := (⟨"com/example/kontrakt/kontrakt/input/Numerals", "isDigits", "(Ljava/lang/String;)Z"⟩ : MethodName)) hown (mvT hZ (hw _ (List.mem_of_getElem? (i := 61) rfl))) (mvT hZ (hw _ (List.mem_of_getElem? (i := 62) rfl))) (mvT hZ (hw _ (List.mem_of_getElem? (i := 59) rfl))) (mvT hZ (hw _ (List.mem_of_getElem? (i := 63) rfl))) (by decide) (backOf (W := 0) (rm_isd l Z a0 hw [] x t kb cs N2 G1 G3 (h0) n0 Z0  E V C0 K hcd hbd S hz F rf l0 l2) hZ (hw _ (List.mem_of_getElem? (i := 63) rfl)) (hw _ (List.mem_of_getElem? (i := 59) rfl)) (by decide) (by decide)) (g := (mkF m 1 #[.val (.ref x), .val (.long mx), .second, .unset, .unset, .unset, .unset] [(.ref x)])) rfl (by rw [hml]; rfl) (argsL := [(.ref x)]) (rest := []) (lenOf pd_1 rfl) rfl (by show 2 * 0 + _ ≤ _; exact Nat.le_of_eq rfl) (hb hby d8_1) (fun _ _ => ⟨rfl, e0, (by decide : 0 + 0 ≤ _), (by decide : 0 + 0 ≤ _)⟩)
  dsimp only [Pt.U, Pt.locs, Pt.cells, Pt.slots] at X1 l1 y1 z1 st1 hQ1
  rw [l1, y1, z1] at X1
  replace X1 : Stand _ _ _ _ _ _ _ _ _ _ _ _ 0 0 := X1
  obtain ⟨vq1, N1, e1⟩ := hQ1
  rw [vq1] at st1
  have Nn1 := Fr.app N0 N1
  have lp2 := cnt_loop x t kb cs N2 G1 G3 mx hx hZ hw hby hml hown hln hch hem E V C0 K hcd hbd S hz F rf l0 l2 (by decide) (by decide) (by decide) (by decide) cs.length 0 T1 0 _ (Nat.zero_add _) (Or.inl rfl) X1 e1
  rw [List.drop_zero, hv] at lp2
  obtain ⟨v2, hv2, T2, j2, s2, X2, e2, st2⟩ := lp2.resolve_right (fun q => nomatch q.1)
  obtain rfl := Option.some.inj hv2
  obtain ⟨fs, hr, hrun, hended, hW, hsame⟩ := X2.leave (v := some (.long vr)) (fun h => by rw [Bd.returns] at h; cases h)
  refine ⟨_, _, pre0 _ ?_, hrun, hended, _, _, rfl, ?_, ⟨_, rfl⟩, hW, hsame.mono (Nat.le_of_ble_eq_true rfl) (Nat.le_of_ble_eq_true rfl)⟩
  · show Steps p.tables e below (s₁.setTop (mkF m 0 #[.val (.ref x), .val (.long mx), .second, .unset, .unset, .unset, .unset] [])) _
    refine XS.aloadN X0.here hx rfl (hb hby d8_0) rfl rfl ?_
    show Steps p.tables e below (s₁.setTop (mkF m 1 #[.val (.ref x), .val (.long mx), .second, .unset, .unset, .unset, .unset] [(.ref x)])) _
    refine st1 _ ?_
    show Steps p.tables e below (T1.setTop (mkF m 4 #[.val (.ref x), .val (.long mx), .second, .unset, .unset, .unset, .unset] [(.int (isd_res cs))])) _
    refine XS.ifYes X1.here hx rfl (pc0 := 4) (pc' := 9) rfl (hb hby d8_4) rfl (own_isd1 hg) (by decide) (by decide) ?_
    show Steps p.tables e below (T1.setTop (mkF m 9 #[.val (.ref x), .val (.long mx), .second, .unset, .unset, .unset, .unset] [])) _
    refine XT.lconst X1.here hx rfl (hb hby d8_9) ?_
    show Steps p.tables e below (T1.setTop (mkF m 10 #[.val (.ref x), .val (.long mx), .second, .unset, .unset, .unset, .unset] [(.long (0 : Int64))])) _
    refine XT.lstoreN X1.here hx rfl (hb hby d8_10) rfl (l' := #[.val (.ref x), .val (.long mx), .second, .val (.long (0 : Int64)), .second, .unset, .unset]) rfl ?_
    show Steps p.tables e below (T1.setTop (mkF m 11 #[.val (.ref x), .val (.long mx), .second, .val (.long (0 : Int64)), .second, .unset, .unset] [])) _
    refine XS.iconst X1.here hx rfl (hb hby d8_11) ?_
    show Steps p.tables e below (T1.setTop (mkF m 12 #[.val (.ref x), .val (.long mx), .second, .val (.long (0 : Int64)), .second, .unset, .unset] [(.int (0 : Int32))])) _
    refine XS.istore X1.here hx rfl (hb hby d8_12) rfl (l' := #[.val (.ref x), .val (.long mx), .second, .val (.long (0 : Int64)), .second, .val (.int (0 : Int32)), .unset]) rfl ?_
    show Steps p.tables e below (T1.setTop (mkF m 14 #[.val (.ref x), .val (.long mx), .second, .val (.long (0 : Int64)), .second, .val (.int (0 : Int32)), .unset] [])) _
    refine st2 _ ?_
    show Steps p.tables e below (T2.setTop (mkF m 76 #[.val (.ref x), .val (.long mx), .second, .val (.long vr), .second, .val (.int j2), s2] [])) _
    refine XT.lloadN X2.here hx rfl (hb hby d8_76) rfl ?_
    show Steps p.tables e below (T2.setTop (mkF m 77 #[.val (.ref x), .val (.long mx), .second, .val (.long vr), .second, .val (.int j2), s2] [(.long vr)])) _
    exact retOut X2 hx (t := .long) Bd.returns rfl (Or.inr (Or.inl ⟨rfl, rfl, _, rfl⟩)) (hb hby d8_77) hr
  · show Q_cntS Z x mx t kb cs N2 G1 G3 vr h0 n0 _ T2.heap _
    exact ⟨rfl, Nn1, e2⟩
theorem ef_cntN (m : MethodId) (x : Addr) (mx : Int64) : entryFrame m #[(.ref x), (.long mx)] 7 = (mkF m 0 #[.val (.ref x), .val (.long mx), .second, .unset, .unset, .unset, .unset] []) := by first | (simp [entryFrame, mkF, argsToLocals, Value.category]; done) | rfl
def Q_cntN (Z : State) (x : Addr) (mx : Int64) (t : Addr) (kb : ClassId) (cs : List Int32) (N2 : Int32) (G1 : Int32) (G3 : Value) (h0 : Heap) (n0 : Nat) (v : Option Value) (h : Heap) (L : List Loc) : Prop := v = some (.long (0 : Int64)) ∧ Fr n0 L ∧ h = h0
set_option maxRecDepth 65536 in
set_option maxHeartbeats 40000000 in
theorem rm_cntN (l : Launch) (Z : State) (a0 : Array Value) (hw : ∀ d ∈ tables_1, d.before a0 Z = true) (ws : List Jvm.Cond) (x : Addr) (mx : Int64) (t : Addr) (kb : ClassId) (cs : List Int32) (N2 : Int32) (G1 : Int32) (G3 : Value) (h0 : Heap) (n0 : Nat) (Z0 : n0 ≤ h0.size)  (E : Exa Z h0 x "java/lang/String") (V : Fld Z h0 x "java/lang/String" "value" "[B" (.ref t)) (C0 : Fld Z h0 x "java/lang/String" "coder" "B" (.int (0 : Int32))) (K : Arv Z h0 t kb .byte N2 ((cs.map (fun c => c.toInt8.toInt32)).map Value.int) (.int (0 : Int32))) (hcd : StrChars.Road.CodA cs 0 N2 ((cs.map (fun c => c.toInt8.toInt32)).map Value.int)) (hbd : ∀ c ∈ cs, ¬ c < 0 ∧ ¬ (65535 : Int32) < c) (S : Sta Z h0 "java/lang/String" "COMPACT_STRINGS" "Z" (.int G1)) (hz : ¬ G1 = 0) (F : Sta Z h0 "jdk/internal/util/Preconditions" "SIOOBE_FORMATTER" "Ljava/util/function/BiFunction;" G3) (rf : G3.isRef = true) (l0 : 0 < cs.length) (l2 : cs.length ≤ 20) (hg : cs.all own_good = true) (hv : own_cnt mx cs 0 = none)  :
    MetFree l (⟨"com/example/kontrakt/kontrakt/input/Numerals", "count", "(Ljava/lang/String;J)J"⟩ : MethodName) (head1 (Jvm.Cond.code (⟨"com/example/kontrakt/kontrakt/input/Numerals", "count", "(Ljava/lang/String;J)J"⟩ : MethodName) prog_22_method_3_code 7 (some .long) :: ws) ({ frames := 5, cells := 0, slots := 0, locals := 90 } : Room)) (fun a U => a = #[(.ref x), (.long mx)] ∧ Z.Warmed39 U.vm ∧ U.heap = h0) (fun _ _ _ _ _ => True) (fun _ U o U' => ∃ v L, o = .returned v ∧ Q_cntN Z x mx t kb cs N2 G1 G3 h0 n0 v U'.heap L ∧ FrameEnd U o U' L ({ frames := 5, cells := 0, slots := 0, locals := 90 } : Room).cells ({ frames := 5, cells := 0, slots := 0, locals := 90 } : Room).slots) := by
  refine MetFree.of_bodySF (plainFor_of_name pn_0) hisR ?_
  intro p e s m args below meth c s₁ Bd hml0 hP hK
  obtain ⟨rfl, hZ, hh⟩ := hP
  have hx := Bd.exec
  have hby := Bd.bytes
  have hml : c.maxLocals = 7 := hml0
  have hown : s.vm.findClass "com/example/kontrakt/kontrakt/input/Numerals" = some m.cls := findClass_of_methodNamed Bd.named
  have hnm := (name_of_methodNamed Bd.named Bd.method).1
  have X0 : Stand p l e ({ frames := 5, cells := 0, slots := 0, locals := 90 } : Room) s m #[(.ref x), (.long mx)] below meth c s₁ [] 0 0 := Stand.of_body Bd
  have e0 : s₁.heap = h0 := by rw [← hh, Bd.state]; rfl
  have N0 := Fr.nil n0
  have pre0 : ∀ t, Steps p.tables e below (s₁.setTop (mkF m 0 #[.val (.ref x), .val (.long mx), .second, .unset, .unset, .unset, .unset] [])) t → Steps p.tables e below (s₁.setTop (entryFrame m #[(.ref x), (.long mx)] 7)) t := fun t k => castTop (ef_cntN m x mx) k
  have hln : ∀ d ∈ StrChars.Road.wordsLen, d.before a0 Z = true := fun d hd => hw d ((by decide +kernel : ∀ d ∈ StrChars.Road.wordsLen, d ∈ tables_1) d hd)
  have hch : ∀ d ∈ StrChars.Road.wordsChN, d.before a0 Z = true := fun d hd => hw d ((by decide +kernel : ∀ d ∈ StrChars.Road.wordsChN, d ∈ tables_1) d hd)
  have hem : ∀ d ∈ StrChars.Road.wordsEmp, d.before a0 Z = true := fun d hd => hw d ((by decide +kernel : ∀ d ∈ StrChars.Road.wordsEmp, d ∈ tables_1) d hd)
  obtain ⟨_, _, ⟨T1, L1, k1, n1⟩, -, X1, ⟨Lc1, hQ1, l1, y1, z1⟩, st1⟩ := Jvm.LawKit.callS X0 hx (y := (⟨"com/example/kontrakt/kontrakt/input/Numerals", "isDigits", "(Ljava/lang/String;)Z"⟩ : MethodName)) hown (mvT hZ (hw _ (List.mem_of_getElem? (i := 61) rfl))) (mvT hZ (hw _ (List.mem_of_getElem? (i := 62) rfl))) (mvT hZ (hw _ (List.mem_of_getElem? (i := 59) rfl))) (mvT hZ (hw _ (List.mem_of_getElem? (i := 63) rfl))) (by decide) (backOf (W := 0) (rm_isd l Z a0 hw [] x t kb cs N2 G1 G3 (h0) n0 Z0  E V C0 K hcd hbd S hz F rf l0 l2) hZ (hw _ (List.mem_of_getElem? (i := 63) rfl)) (hw _ (List.mem_of_getElem? (i := 59) rfl)) (by decide) (by decide)) (g := (mkF m 1 #[.val (.ref x), .val (.long mx), .second, .unset, .unset, .unset, .unset] [(.ref x)])) rfl (by rw [hml]; rfl) (argsL := [(.ref x)]) (rest := []) (lenOf pd_1 rfl) rfl (by show 2 * 0 + _ ≤ _; exact Nat.le_of_eq rfl) (hb hby d8_1) (fun _ _ => ⟨rfl, e0, (by decide : 0 + 0 ≤ _), (by decide : 0 + 0 ≤ _)⟩)
  dsimp only [Pt.U, Pt.locs, Pt.cells, Pt.slots] at X1 l1 y1 z1 st1 hQ1
  rw [l1, y1, z1] at X1
  replace X1 : Stand _ _ _ _ _ _ _ _ _ _ _ _ 0 0 := X1
  obtain ⟨vq1, N1, e1⟩ := hQ1
  rw [vq1] at st1
  have Nn1 := Fr.app N0 N1
  have lp2 := cnt_loop x t kb cs N2 G1 G3 mx hx hZ hw hby hml hown hln hch hem E V C0 K hcd hbd S hz F rf l0 l2 (by decide) (by decide) (by decide) (by decide) cs.length 0 T1 0 _ (Nat.zero_add _) (Or.inl rfl) X1 e1
  rw [List.drop_zero, hv] at lp2
  obtain ⟨-, T2, b2, j2, s2, X2, e2, st2⟩ := lp2.resolve_left (fun ⟨_, q, _⟩ => nomatch q)
  obtain ⟨fs, hr, hrun, hended, hW, hsame⟩ := X2.leave (v := some (.long (0 : Int64))) (fun h => by rw [Bd.returns] at h; cases h)
  refine ⟨_, _, pre0 _ ?_, hrun, hended, _, _, rfl, ?_, ⟨_, rfl⟩, hW, hsame.mono (Nat.le_of_ble_eq_true rfl) (Nat.le_of_ble_eq_true rfl)⟩
  · show Steps p.tables e below (s₁.setTop (mkF m 0 #[.val (.ref x), .val (.long mx), .second, .unset, .unset, .unset, .unset] [])) _
    refine XS.aloadN X0.here hx rfl (hb hby d8_0) rfl rfl ?_
    show Steps p.tables e below (s₁.setTop (mkF m 1 #[.val (.ref x), .val (.long mx), .second, .unset, .unset, .unset, .unset] [(.ref x)])) _
    refine st1 _ ?_
    show Steps p.tables e below (T1.setTop (mkF m 4 #[.val (.ref x), .val (.long mx), .second, .unset, .unset, .unset, .unset] [(.int (isd_res cs))])) _
    refine XS.ifYes X1.here hx rfl (pc0 := 4) (pc' := 9) rfl (hb hby d8_4) rfl (own_isd1 hg) (by decide) (by decide) ?_
    show Steps p.tables e below (T1.setTop (mkF m 9 #[.val (.ref x), .val (.long mx), .second, .unset, .unset, .unset, .unset] [])) _
    refine XT.lconst X1.here hx rfl (hb hby d8_9) ?_
    show Steps p.tables e below (T1.setTop (mkF m 10 #[.val (.ref x), .val (.long mx), .second, .unset, .unset, .unset, .unset] [(.long (0 : Int64))])) _
    refine XT.lstoreN X1.here hx rfl (hb hby d8_10) rfl (l' := #[.val (.ref x), .val (.long mx), .second, .val (.long (0 : Int64)), .second, .unset, .unset]) rfl ?_
    show Steps p.tables e below (T1.setTop (mkF m 11 #[.val (.ref x), .val (.long mx), .second, .val (.long (0 : Int64)), .second, .unset, .unset] [])) _
    refine XS.iconst X1.here hx rfl (hb hby d8_11) ?_
    show Steps p.tables e below (T1.setTop (mkF m 12 #[.val (.ref x), .val (.long mx), .second, .val (.long (0 : Int64)), .second, .unset, .unset] [(.int (0 : Int32))])) _
    refine XS.istore X1.here hx rfl (hb hby d8_12) rfl (l' := #[.val (.ref x), .val (.long mx), .second, .val (.long (0 : Int64)), .second, .val (.int (0 : Int32)), .unset]) rfl ?_
    show Steps p.tables e below (T1.setTop (mkF m 14 #[.val (.ref x), .val (.long mx), .second, .val (.long (0 : Int64)), .second, .val (.int (0 : Int32)), .unset] [])) _
    refine st2 _ ?_
    show Steps p.tables e below (T2.setTop (mkF m 58 #[.val (.ref x), .val (.long mx), .second, .val (.long b2), .second, .val (.int j2), s2] [])) _
    refine XT.lconst X2.here hx rfl (hb hby d8_58) ?_
    show Steps p.tables e below (T2.setTop (mkF m 59 #[.val (.ref x), .val (.long mx), .second, .val (.long b2), .second, .val (.int j2), s2] [(.long (0 : Int64))])) _
    exact retOut X2 hx (t := .long) Bd.returns rfl (Or.inr (Or.inl ⟨rfl, rfl, _, rfl⟩)) (hb hby d8_59) hr
  · show Q_cntN Z x mx t kb cs N2 G1 G3 h0 n0 _ T2.heap _
    exact ⟨rfl, Nn1, e2⟩
def cnt_res (mx : Int64) (cs : List Int32) : Int64 := if cs.all own_good = true then (own_cnt mx cs 0).getD 0 else 0
def Q_cnt (Z : State) (x : Addr) (mx : Int64) (t : Addr) (kb : ClassId) (cs : List Int32) (N2 : Int32) (G1 : Int32) (G3 : Value) (h0 : Heap) (n0 : Nat) (v : Option Value) (h : Heap) (L : List Loc) : Prop := v = some (.long (cnt_res mx cs)) ∧ Fr n0 L ∧ h = h0
set_option maxRecDepth 65536 in
set_option maxHeartbeats 40000000 in
theorem rm_cnt (l : Launch) (Z : State) (a0 : Array Value) (hw : ∀ d ∈ tables_1, d.before a0 Z = true) (ws : List Jvm.Cond) (x : Addr) (mx : Int64) (t : Addr) (kb : ClassId) (cs : List Int32) (N2 : Int32) (G1 : Int32) (G3 : Value) (h0 : Heap) (n0 : Nat) (Z0 : n0 ≤ h0.size)  (E : Exa Z h0 x "java/lang/String") (V : Fld Z h0 x "java/lang/String" "value" "[B" (.ref t)) (C0 : Fld Z h0 x "java/lang/String" "coder" "B" (.int (0 : Int32))) (K : Arv Z h0 t kb .byte N2 ((cs.map (fun c => c.toInt8.toInt32)).map Value.int) (.int (0 : Int32))) (hcd : StrChars.Road.CodA cs 0 N2 ((cs.map (fun c => c.toInt8.toInt32)).map Value.int)) (hbd : ∀ c ∈ cs, ¬ c < 0 ∧ ¬ (65535 : Int32) < c) (S : Sta Z h0 "java/lang/String" "COMPACT_STRINGS" "Z" (.int G1)) (hz : ¬ G1 = 0) (F : Sta Z h0 "jdk/internal/util/Preconditions" "SIOOBE_FORMATTER" "Ljava/util/function/BiFunction;" G3) (rf : G3.isRef = true) (l0 : 0 < cs.length) (l2 : cs.length ≤ 20)  :
    MetFree l (⟨"com/example/kontrakt/kontrakt/input/Numerals", "count", "(Ljava/lang/String;J)J"⟩ : MethodName) (head1 (Jvm.Cond.code (⟨"com/example/kontrakt/kontrakt/input/Numerals", "count", "(Ljava/lang/String;J)J"⟩ : MethodName) prog_22_method_3_code 7 (some .long) :: ws) ({ frames := 5, cells := 0, slots := 0, locals := 90 } : Room)) (fun a U => a = #[(.ref x), (.long mx)] ∧ Z.Warmed39 U.vm ∧ U.heap = h0) (fun _ _ _ _ _ => True) (fun _ U o U' => ∃ v L, o = .returned v ∧ Q_cnt Z x mx t kb cs N2 G1 G3 h0 n0 v U'.heap L ∧ FrameEnd U o U' L ({ frames := 5, cells := 0, slots := 0, locals := 90 } : Room).cells ({ frames := 5, cells := 0, slots := 0, locals := 90 } : Room).slots) := by
  by_cases hg : cs.all own_good = true
  · rcases hv : own_cnt mx cs 0 with _ | v
    · have q : cnt_res mx cs = 0 := by unfold cnt_res; rw [if_pos hg, hv]; rfl
      unfold Q_cnt; rw [q]
      exact rm_cntN l Z a0 hw ws x mx t kb cs N2 G1 G3 h0 n0 Z0 E V C0 K hcd hbd S hz F rf l0 l2 hg hv
    · have q : cnt_res mx cs = v := by unfold cnt_res; rw [if_pos hg, hv]; rfl
      unfold Q_cnt; rw [q]
      exact rm_cntS l Z a0 hw ws x mx t kb cs N2 G1 G3 v h0 n0 Z0 E V C0 K hcd hbd S hz F rf l0 l2 hg hv
  · have q : cnt_res mx cs = 0 := if_neg hg
    unfold Q_cnt; rw [q]
    exact rm_cntB l Z a0 hw ws x mx t kb cs N2 G1 G3 h0 n0 Z0 E V C0 K hcd hbd S hz F rf l0 l2 hg
def own_pw : List Int64 := [(1 : Int64), (10 : Int64), (100 : Int64), (1000 : Int64), (10000 : Int64), (100000 : Int64), (1000000 : Int64), (10000000 : Int64), (100000000 : Int64), (1000000000 : Int64), (10000000000 : Int64), (100000000000 : Int64), (1000000000000 : Int64), (10000000000000 : Int64), (100000000000000 : Int64), (1000000000000000 : Int64), (10000000000000000 : Int64), (100000000000000000 : Int64), (1000000000000000000 : Int64)]
def own_pwv : List Value := own_pw.map Value.long
def own_pj (i : Int32) : Int64 := own_pw.getD i.toNatClampNeg 0
theorem own_pat (i : Int32) : own_pwv.getD i.toNatClampNeg (.long (0 : Int64)) = .long (own_pj i) := by
  unfold own_pwv own_pj
  rw [List.getD_eq_getElem?_getD, List.getD_eq_getElem?_getD, List.getElem?_map]
  cases own_pw[i.toNatClampNeg]? <;> rfl
theorem own_19 {i : Int32} (h0 : 0 ≤ i.toInt) (h1 : i.toInt ≤ 19) (h : if_icmp.holds .ne i (19 : Int32) = true) : ¬ i < 0 ∧ i < (19 : Int32) := by
  have q := (own_c_ne _ _).mp h
  have e : (19 : Int32).toInt = 19 := rfl
  have e0 : (0 : Int32).toInt = 0 := rfl
  rw [e] at q
  constructor <;> (rw [Int32.lt_iff_toInt_lt]; omega)
theorem own_pj_nat {k : Nat} (h : k < 19) : (own_pw.getD k 0).toInt = (10 ^ k : Nat) := by
  have t : ∀ k : Fin 19, (own_pw.getD k.val 0).toInt = ((10 ^ k.val : Nat) : Int) := by decide +kernel
  exact t ⟨k, h⟩
theorem own_pj_ne {i : Int32} (h : ¬ i < 0 ∧ i < (19 : Int32)) : own_pj i ≠ 0 := by
  have e : i.toNatClampNeg < 19 := by
    have h2 := h.2; rw [Int32.lt_iff_toInt_lt] at h2
    have e : (19 : Int32).toInt = 19 := rfl
    unfold Int32.toNatClampNeg; omega
  intro q
  have := own_pj_nat e
  unfold own_pj at q
  rw [q] at this
  have p : 0 < 10 ^ i.toNatClampNeg := Nat.pow_pos (by decide)
  have z : (0 : Int64).toInt = 0 := rfl
  omega
theorem own_z0 {z : Int32} (h : ¬ z = 0) : ifCond.holds .eq z = false := by simp [ifCond.holds, h]
def dig_res (vv : Int64) (top : Int32) (n : Int32) (i : Int32) : Int32 := (if (if_icmp.holds .lt i n) = true then (if (if_icmp.holds .ne i (19 : Int32)) = true then (nar .char ((Int32.toUInt32 ((48 : Int32) + (Int64.toInt32 ((vv / (own_pj i)) - (vv / (own_pj i)) / (10 : Int64) * (10 : Int64))))).toUInt16.toUInt32.toInt32)) else (nar .char ((Int32.toUInt32 ((48 : Int32) + top)).toUInt16.toUInt32.toInt32))) else (nar .char (48 : Int32)))
def own_ts (v : Int64) (top n : Int32) : List Int32 := [nar .char (dig_res v top n (19 : Int32)), nar .char (dig_res v top n (18 : Int32)), nar .char (dig_res v top n (17 : Int32)), nar .char (dig_res v top n (16 : Int32)), nar .char (dig_res v top n (15 : Int32)), nar .char (dig_res v top n (14 : Int32)), nar .char (dig_res v top n (13 : Int32)), nar .char (dig_res v top n (12 : Int32)), nar .char (dig_res v top n (11 : Int32)), nar .char (dig_res v top n (10 : Int32)), nar .char (dig_res v top n (9 : Int32)), nar .char (dig_res v top n (8 : Int32)), nar .char (dig_res v top n (7 : Int32)), nar .char (dig_res v top n (6 : Int32)), nar .char (dig_res v top n (5 : Int32)), nar .char (dig_res v top n (4 : Int32)), nar .char (dig_res v top n (3 : Int32)), nar .char (dig_res v top n (2 : Int32)), nar .char (dig_res v top n (1 : Int32)), nar .char (dig_res v top n (0 : Int32))]
def sb_v (pa : Int64) (pp : Int32) (pd : Int32) : Int64 := (pa &&& (9223372036854775807 : Int64))
def sb_n (pa : Int64) (pp : Int32) (pd : Int32) : Int32 := ((pp &&& (2147483647 : Int32)) - (pp &&& (2147483647 : Int32)) / (21 : Int32) * (21 : Int32))
def sb_top (pa : Int64) (pp : Int32) (pd : Int32) : Int32 := ((pd &&& (2147483647 : Int32)) - (pd &&& (2147483647 : Int32)) / (10 : Int32) * (10 : Int32))
def own_bad (pq : Int32) : Int32 := if ifCond.holds .eq (pq &&& (1 : Int32)) = true then 0 else 1
def own_big (n top : Int32) : Int32 := (if (if_icmp.holds .ne n (20 : Int32)) = true then (0 : Int32) else (if (ifCond.holds .eq top) = true then (0 : Int32) else (1 : Int32)))
def own_ixv (pq : Int32) : Int32 := (XT.ushr pq (3 : Int32) - XT.ushr pq (3 : Int32) / (20 : Int32) * (20 : Int32))
def own_chb (pc : Int32) : Int32 := (if (if_icmp.holds .lt (pc &&& (255 : Int32)) (48 : Int32)) = true then (pc &&& (255 : Int32)) else (if (if_icmp.holds .gt (pc &&& (255 : Int32)) (57 : Int32)) = true then (pc &&& (255 : Int32)) else ((pc &&& (255 : Int32)) + (10 : Int32))))
def own_chx (pc : Int32) : Int32 := nar .char (Int32.toUInt32 (own_chb pc)).toUInt16.toUInt32.toInt32
def own_cs (pq pc : Int32) (ts : List Int32) : List Int32 := if ifCond.holds .eq (pq &&& (1 : Int32)) = true then ts else ts.set (own_ixv pq).toNatClampNeg (own_chx pc)
theorem own_bad1 {pq : Int32} (hb : ifCond.holds .eq (pq &&& (1 : Int32)) = false) : own_bad pq = 1 := by unfold own_bad; rw [if_neg (by rw [hb]; exact Bool.false_ne_true)]
theorem own_bad0 {pq : Int32} (hb : ifCond.holds .eq (pq &&& (1 : Int32)) = true) : own_bad pq = 0 := by unfold own_bad; rw [if_pos hb]
theorem own_ush (x : Int32) : 0 ≤ (XT.ushr x (3 : Int32)).toInt := by
  have h : XT.ushr x (3 : Int32) = (x.toUInt32 >>> 3).toInt32 := by rfl
  rw [h]
  have q : (x.toUInt32 >>> 3).toNat < 536870912 := by
    rw [UInt32.toNat_shiftRight]
    have := x.toUInt32.toNat_lt
    have e : (3 : UInt32).toNat % 32 = 3 := rfl
    rw [e, Nat.shiftRight_eq_div_pow]; omega
  show 0 ≤ BitVec.toInt (x.toUInt32 >>> 3).toBitVec
  rw [BitVec.toInt_eq_toNat_of_lt (by show 2 * (x.toUInt32 >>> 3).toNat < _; omega)]
  omega
theorem own_ixr (pq : Int32) : 0 ≤ (own_ixv pq).toInt ∧ (own_ixv pq).toInt < 20 := by
  unfold own_ixv
  rw [own_irem_nn (own_ush pq)]
  have e : (20 : Int32).toInt = 20 := rfl
  rw [e]; omega
theorem own_ix (pq : Int32) : ¬ (XT.ushr pq (3 : Int32) - XT.ushr pq (3 : Int32) / (20 : Int32) * (20 : Int32)) < 0 ∧ (XT.ushr pq (3 : Int32) - XT.ushr pq (3 : Int32) / (20 : Int32) * (20 : Int32)) < (20 : Int32) := by
  have h := own_ixr pq
  unfold own_ixv at h
  have e : (20 : Int32).toInt = 20 := rfl
  have e0 : (0 : Int32).toInt = 0 := rfl
  constructor
  · rw [Int32.lt_iff_toInt_lt, e0]; omega
  · rw [Int32.lt_iff_toInt_lt, e]; omega
theorem own_ixn (pq : Int32) : (own_ixv pq).toNatClampNeg < 20 := by
  have h := own_ixr pq
  unfold Int32.toNatClampNeg; omega
theorem own_ixl (pq : Int32) {ts : List Int32} (h : ts.length = 20) : (XT.ushr pq (3 : Int32) - XT.ushr pq (3 : Int32) / (20 : Int32) * (20 : Int32)).toNatClampNeg < (ts.map Value.int).length := by
  rw [List.length_map, h]; exact own_ixn pq
theorem own_csb {Z : State} {h : Heap} {a : Addr} {k : ClassId} {z : Int32} {d : Value} {pq pc : Int32} {ts : List Int32} (hb : ifCond.holds .eq (pq &&& (1 : Int32)) = false) (F : Arv Z h a k .char z ((ts.map Value.int).set (own_ixv pq).toNatClampNeg (.int (own_chx pc))) d) : Arv Z h a k .char z ((own_cs pq pc ts).map Value.int) d := by
  unfold own_cs; rw [if_neg (by rw [hb]; exact Bool.false_ne_true), List.map_set]; exact F
theorem own_csn {Z : State} {h : Heap} {a : Addr} {k : ClassId} {z : Int32} {d : Value} {pq pc : Int32} {ts : List Int32} (hb : ifCond.holds .eq (pq &&& (1 : Int32)) = true) (F : Arv Z h a k .char z (ts.map Value.int) d) : Arv Z h a k .char z ((own_cs pq pc ts).map Value.int) d := by
  unfold own_cs; rw [if_pos hb]; exact F
def lf_near (pa : Int64) (pp : Int32) (pq : Int32) (pc : Int32) (pd : Int32) (pm : Int64) : Int32 := (if (ifCond.holds .eq (pq &&& (2 : Int32))) = true then (0 : Int32) else (1 : Int32))
def lf_delta (pa : Int64) (pp : Int32) (pq : Int32) (pc : Int32) (pd : Int32) (pm : Int64) : Int64 := ((Int32.toInt64 (Int64.toInt32 (pm &&& (3 : Int64)))) - (2 : Int64))
def lf_val (pa : Int64) (pp : Int32) (pq : Int32) (pc : Int32) (pd : Int32) (pm : Int64) : Int64 := (if (if_icmp.holds .lt (sb_n pa pp pd) (19 : Int32)) = true then ((sb_v pa pp pd) - (sb_v pa pp pd) / (own_pj (sb_n pa pp pd)) * (own_pj (sb_n pa pp pd))) else (sb_v pa pp pd))
def lf_max (pa : Int64) (pp : Int32) (pq : Int32) (pc : Int32) (pd : Int32) (pm : Int64) : Int64 := (if (ifCond.holds .eq (lf_near pa pp pq pc pd pm)) = true then pm else ((lf_val pa pp pq pc pd pm) + (lf_delta pa pp pq pc pd pm)))
def lf_exp (pa : Int64) (pp : Int32) (pq : Int32) (pc : Int32) (pd : Int32) (pm : Int64) : Int64 := (if (ifCond.holds .ne (own_bad pq)) = true then (0 : Int64) else (if (ifCond.holds .ne (own_big (sb_n pa pp pd) (sb_top pa pp pd))) = true then (0 : Int64) else (if (ifCond.holds .lt (XT.cmpL (lf_val pa pp pq pc pd pm) (1 : Int64))) = true then (0 : Int64) else (if (ifCond.holds .le (XT.cmpL (lf_val pa pp pq pc pd pm) (lf_max pa pp pq pc pd pm))) = true then (lf_val pa pp pq pc pd pm) else (0 : Int64)))))
def lt_near (pa : Int64) (pp : Int32) (pq : Int32) (pc : Int32) (pd : Int32) (pm : Int64) : Int32 := (if (ifCond.holds .eq (pq &&& (2 : Int32))) = true then (0 : Int32) else (1 : Int32))
def lt_delta (pa : Int64) (pp : Int32) (pq : Int32) (pc : Int32) (pd : Int32) (pm : Int64) : Int64 := ((Int32.toInt64 (Int64.toInt32 (pm &&& (3 : Int64)))) - (2 : Int64))
def lt_sx (pa : Int64) (pp : Int32) (pq : Int32) (pc : Int32) (pd : Int32) (pm : Int64) : Int32 := ((Int32.toUInt32 (pc &&& (255 : Int32))).toUInt16.toUInt32.toInt32)
def lt_isd (pa : Int64) (pp : Int32) (pq : Int32) (pc : Int32) (pd : Int32) (pm : Int64) : Int32 := (if (if_icmp.holds .lt (lt_sx pa pp pq pc pd pm) (48 : Int32)) = true then (0 : Int32) else (if (if_icmp.holds .gt (lt_sx pa pp pq pc pd pm) (57 : Int32)) = true then (0 : Int32) else (1 : Int32)))
def lt_val (pa : Int64) (pp : Int32) (pq : Int32) (pc : Int32) (pd : Int32) (pm : Int64) : Int64 := (if (ifCond.holds .eq (lt_isd pa pp pq pc pd pm)) = true then (0 : Int64) else (Int32.toInt64 ((lt_sx pa pp pq pc pd pm) - (48 : Int32))))
def lt_max (pa : Int64) (pp : Int32) (pq : Int32) (pc : Int32) (pd : Int32) (pm : Int64) : Int64 := (if (ifCond.holds .eq (lt_near pa pp pq pc pd pm)) = true then pm else ((lt_val pa pp pq pc pd pm) + (lt_delta pa pp pq pc pd pm)))
def lt_exp (pa : Int64) (pp : Int32) (pq : Int32) (pc : Int32) (pd : Int32) (pm : Int64) : Int64 := (if (ifCond.holds .eq (lt_isd pa pp pq pc pd pm)) = true then (0 : Int64) else (if (ifCond.holds .lt (XT.cmpL (lt_val pa pp pq pc pd pm) (1 : Int64))) = true then (0 : Int64) else (if (ifCond.holds .gt (XT.cmpL (lt_val pa pp pq pc pd pm) (lt_max pa pp pq pc pd pm))) = true then (0 : Int64) else (lt_val pa pp pq pc pd pm))))
/-! own text: what count says, in plain integers -/
def own_chr (d : Nat) : Int32 := Int32.ofNat (48 + d)
theorem own_fin10 {P : Nat → Prop} (t : ∀ k : Fin 10, P k.val) {d : Nat} (h : d ≤ 9) : P d := t ⟨d, by omega⟩
theorem own_chr_good {d : Nat} (h : d ≤ 9) : own_good (own_chr d) = true := own_fin10 (P := fun d => own_good (own_chr d) = true) (by decide +kernel) h
theorem own_chr_dig {d : Nat} (h : d ≤ 9) : (own_dig (own_chr d)).toInt = d := own_fin10 (P := fun d => (own_dig (own_chr d)).toInt = (d : Int)) (by decide +kernel) h
theorem own_chr_hp {d : Nat} (h : d ≤ 9) : ¬ own_chr d < 0 ∧ ¬ (255 : Int32) < own_chr d := own_fin10 (P := fun d => ¬ own_chr d < 0 ∧ ¬ (255 : Int32) < own_chr d) (by decide +kernel) h
def own_H : List Nat → Nat → Nat
  | [], a => a
  | d :: r, a => own_H r (10 * a + d)
theorem own_H_le : ∀ (ds : List Nat) (a : Nat), a ≤ own_H ds a
  | [], a => Nat.le_refl a
  | d :: r, a => by
    have := own_H_le r (10 * a + d)
    show a ≤ own_H r (10 * a + d)
    omega
theorem own_add64 {x y : Int64} (h0 : -9223372036854775808 ≤ x.toInt + y.toInt) (h1 : x.toInt + y.toInt < 9223372036854775808) : (x + y).toInt = x.toInt + y.toInt := by
  rw [Int64.toInt_add]; exact Jvm.Kit.bmod64 h0 h1
theorem own_sub64 {x y : Int64} (h0 : -9223372036854775808 ≤ x.toInt - y.toInt) (h1 : x.toInt - y.toInt < 9223372036854775808) : (x - y).toInt = x.toInt - y.toInt := by
  rw [Int64.toInt_sub]; exact Jvm.Kit.bmod64 h0 h1
theorem own_mul64 {x y : Int64} (h0 : -9223372036854775808 ≤ x.toInt * y.toInt) (h1 : x.toInt * y.toInt < 9223372036854775808) : (x * y).toInt = x.toInt * y.toInt := by
  rw [Int64.toInt_mul]; exact Jvm.Kit.bmod64 h0 h1
theorem own_div10 (x : Int64) : (x / (10 : Int64)).toInt = x.toInt.tdiv 10 := by
  have e : (10 : Int64).toInt = 10 := rfl
  rw [Int64.toInt_div, e]
  have h1 := x.toInt_lt; have h2 := x.le_toInt
  refine Jvm.Kit.bmod64 ?_ ?_
  · rcases Int.le_total 0 x.toInt with q | q
    · have := Int.tdiv_nonneg q (by decide : (0 : Int) ≤ 10); omega
    · have e2 : x.toInt.tdiv 10 = -((-x.toInt).tdiv 10) := by rw [Int.neg_tdiv, Int.neg_neg]
      rw [e2, Int.tdiv_eq_ediv_of_nonneg (by omega)]; omega
  · rcases Int.le_total 0 x.toInt with q | q
    · rw [Int.tdiv_eq_ediv_of_nonneg q]; omega
    · have e2 : x.toInt.tdiv 10 = -((-x.toInt).tdiv 10) := by rw [Int.neg_tdiv, Int.neg_neg]
      rw [e2, Int.tdiv_eq_ediv_of_nonneg (by omega)]; omega
theorem own_step (mx a d : Int64) {A D : Nat} (ha : a.toInt = A) (hd : d.toInt = D) (h9 : D ≤ 9) :
    (10 * (A : Int) + D ≤ mx.toInt → ¬ ifCond.holds .gt (XT.cmpL a (mx / (10 : Int64))) = true ∧ ifCond.holds .le (XT.cmpL ((10 : Int64) * a) (mx - d)) = true ∧ ((10 : Int64) * a + d).toInt = 10 * (A : Int) + D)
    ∧ (mx.toInt < 10 * (A : Int) + D → ifCond.holds .gt (XT.cmpL a (mx / (10 : Int64))) = true ∨ ¬ ifCond.holds .le (XT.cmpL ((10 : Int64) * a) (mx - d)) = true) := by
  have h1 := mx.toInt_lt; have h2 := mx.le_toInt
  have e10 : (10 : Int64).toInt = 10 := rfl
  constructor
  · intro q
    have m10 : ((10 : Int64) * a).toInt = 10 * (A : Int) := by rw [own_mul64 (by rw [e10, ha]; omega) (by rw [e10, ha]; omega), e10, ha]
    have sd : (mx - d).toInt = mx.toInt - D := by rw [own_sub64 (by rw [hd]; omega) (by rw [hd]; omega), hd]
    refine ⟨?_, ?_, ?_⟩
    · rw [own_h_gt, own_L, own_div10, ha, Int.tdiv_eq_ediv_of_nonneg (by omega)]
      rw [if_neg (by omega)]; split <;> omega
    · rw [own_h_le, own_L, m10, sd, if_neg (by omega)]; split <;> omega
    · rw [own_add64 (by rw [m10, hd]; omega) (by rw [m10, hd]; omega), m10, hd]
  · intro q
    by_cases hg : (mx.toInt.tdiv 10) < (A : Int)
    · refine Or.inl ?_
      rw [own_h_gt, own_L, own_div10, ha, if_pos hg]; omega
    · refine Or.inr ?_
      rcases Int.le_total 0 mx.toInt with p | p
      · rw [Int.tdiv_eq_ediv_of_nonneg p] at hg
        have m10 : ((10 : Int64) * a).toInt = 10 * (A : Int) := by rw [own_mul64 (by rw [e10, ha]; omega) (by rw [e10, ha]; omega), e10, ha]
        have sd : (mx - d).toInt = mx.toInt - D := by rw [own_sub64 (by rw [hd]; omega) (by rw [hd]; omega), hd]
        rw [own_h_le, own_L, m10, sd, if_pos (by omega)]; omega
      · have e2 : mx.toInt.tdiv 10 = -((-mx.toInt).tdiv 10) := by rw [Int.neg_tdiv, Int.neg_neg]
        rw [e2, Int.tdiv_eq_ediv_of_nonneg (by omega)] at hg
        have m10 : ((10 : Int64) * a).toInt = 10 * (A : Int) := by rw [own_mul64 (by rw [e10, ha]; omega) (by rw [e10, ha]; omega), e10, ha]
        have sd : (mx - d).toInt = mx.toInt - D := by rw [own_sub64 (by rw [hd]; omega) (by rw [hd]; omega), hd]
        rw [own_h_le, own_L, m10, sd, if_pos (by omega)]; omega
theorem own_cnt_h (mx : Int64) : ∀ (ds : List Nat) (A : Nat) (a : Int64), (∀ d ∈ ds, d ≤ 9) → a.toInt = A → ds ≠ [] → own_cnt mx (ds.map own_chr) a = if (own_H ds A : Int) ≤ mx.toInt then some (Int64.ofInt (own_H ds A)) else none
  | [], _, _, _, _, h => absurd rfl h
  | d :: r, A, a, h9, ha, _ => by
    have hd9 := h9 d (List.mem_cons_self ..)
    have st := own_step mx a (own_dig (own_chr d)) ha (own_chr_dig hd9) hd9
    show (if _ then _ else if _ then _ else _) = _
    show _ = if ((own_H r (10 * A + d) : Nat) : Int) ≤ _ then some (Int64.ofInt ((own_H r (10 * A + d) : Nat) : Int)) else none
    by_cases q : 10 * (A : Int) + d ≤ mx.toInt
    · obtain ⟨s1, s2, s3⟩ := st.1 q
      rw [if_neg s1, if_pos s2]
      have s4 : ((10 : Int64) * a + own_dig (own_chr d)).toInt = ((10 * A + d : Nat) : Int) := by rw [s3]; omega
      cases r with
      | nil =>
        show some _ = if ((10 * A + d : Nat) : Int) ≤ _ then some (Int64.ofInt ((10 * A + d : Nat) : Int)) else none
        rw [if_pos (by omega), ← s4, Int64.ofInt_toInt]
      | cons d2 r2 => exact own_cnt_h mx (d2 :: r2) (10 * A + d) _ (fun x hx => h9 x (List.mem_cons_of_mem _ hx)) s4 (by simp)
    · have lt : mx.toInt < 10 * (A : Int) + d := by omega
      have hh := own_H_le r (10 * A + d)
      rw [if_neg (c := ((own_H r (10 * A + d) : Nat) : Int) ≤ _) (by omega)]
      rcases st.2 lt with s | s
      · rw [if_pos s]
      · by_cases s1 : ifCond.holds .gt (XT.cmpL a (mx / (10 : Int64))) = true
        · rw [if_pos s1]
        · rw [if_neg s1, if_neg s]
theorem own_all (ds : List Nat) (h : ∀ d ∈ ds, d ≤ 9) : (ds.map own_chr).all own_good = true := by
  rw [List.all_map, List.all_eq_true]
  exact fun d hd => own_chr_good (h d hd)
theorem own_res (mx : Int64) (ds : List Nat) (h : ∀ d ∈ ds, d ≤ 9) (hn : ds ≠ []) : cnt_res mx (ds.map own_chr) = if (own_H ds 0 : Int) ≤ mx.toInt then Int64.ofInt (own_H ds 0) else 0 := by
  unfold cnt_res
  rw [if_pos (own_all ds h), own_cnt_h mx ds 0 0 h rfl hn]
  split <;> rfl
theorem own_cmp_self {x y : Int64} (h : x = y) : ifCond.holds .ne (XT.cmpL x y) = false := by
  subst h
  refine own_f_of (own_h_ne _) ?_
  rw [own_L, if_neg (Int.lt_irrefl _), if_pos rfl]; exact fun q => q rfl
theorem own_up (cs : List Int32) (h : ∀ c ∈ cs, ¬ c < 0 ∧ ¬ (255 : Int32) < c) : ∀ c ∈ cs, ¬ c < 0 ∧ ¬ (65535 : Int32) < c := fun c hc => ⟨(h c hc).1, fun q => (h c hc).2 (by rw [Int32.lt_iff_toInt_lt] at q ⊢; have e1 : (65535 : Int32).toInt = 65535 := rfl; have e2 : (255 : Int32).toInt = 255 := rfl; omega)⟩
/-! sums of digits -/
def own_sum (f : Nat → Nat) : Nat → Nat
  | 0 => 0
  | k + 1 => f k * 10 ^ k + own_sum f k
def own_down (f : Nat → Nat) : Nat → List Nat
  | 0 => []
  | k + 1 => f k :: own_down f k
theorem own_H_down (f : Nat → Nat) : ∀ k a, own_H (own_down f k) a = a * 10 ^ k + own_sum f k
  | 0, a => by show a = a * 1 + 0; omega
  | k + 1, a => by
    show own_H (own_down f k) (10 * a + f k) = a * 10 ^ (k + 1) + (f k * 10 ^ k + own_sum f k)
    rw [own_H_down f k, Nat.pow_succ, Nat.add_mul, Nat.mul_comm 10 a, Nat.mul_assoc, Nat.mul_comm 10 (10 ^ k), Nat.add_assoc]
theorem own_down_le {f : Nat → Nat} (h : ∀ k, f k ≤ 9) : ∀ k, ∀ d ∈ own_down f k, d ≤ 9
  | 0, d, hd => nomatch hd
  | k + 1, d, hd => by
    rcases List.mem_cons.mp hd with rfl | q
    · exact h k
    · exact own_down_le h k d q
def own_dg (W Tp N i : Nat) : Nat := if i < N then (if i = 19 then Tp else W / 10 ^ i % 10) else 0
theorem own_dg_le {W Tp N : Nat} (h : Tp ≤ 9) (k : Nat) : own_dg W Tp N k ≤ 9 := by
  unfold own_dg
  split
  · split
    · exact h
    · omega
  · omega
theorem own_sum_lo (W Tp N : Nat) : ∀ k, k ≤ N → k ≤ 19 → own_sum (own_dg W Tp N) k = W % 10 ^ k
  | 0, _, _ => by show 0 = W % 1; omega
  | k + 1, h, h' => by
    show own_dg W Tp N k * 10 ^ k + own_sum (own_dg W Tp N) k = _
    rw [own_sum_lo W Tp N k (by omega) (by omega), Nat.mod_pow_succ]
    unfold own_dg
    rw [if_pos (by omega), if_neg (by omega), Nat.mul_comm, Nat.add_comm]
theorem own_sum_hi (W Tp N : Nat) (hN : N ≤ 19) : ∀ j, own_sum (own_dg W Tp N) (N + j) = W % 10 ^ N
  | 0 => own_sum_lo W Tp N N (Nat.le_refl _) hN
  | j + 1 => by
    show own_dg W Tp N (N + j) * 10 ^ (N + j) + own_sum (own_dg W Tp N) (N + j) = _
    rw [own_sum_hi W Tp N hN j]
    unfold own_dg
    rw [if_neg (by omega), Nat.zero_mul, Nat.zero_add]
theorem own_sum_20 (W Tp : Nat) : own_sum (own_dg W Tp 20) 20 = Tp * 10 ^ 19 + W % 10 ^ 19 := by
  show own_dg W Tp 20 19 * 10 ^ 19 + own_sum (own_dg W Tp 20) 19 = _
  rw [own_sum_lo W Tp 20 19 (by omega) (by omega)]
  rfl
theorem own_fin256 {P : Int32 → Prop} (t : ∀ k : Fin 256, P (Int32.ofNat k.val)) (x : Int32) : P (x &&& 255) := by
  have h : (x &&& 255).toBitVec.toNat < 256 := by
    simp only [Int32.toBitVec_and, BitVec.toNat_and]
    exact Nat.lt_succ_of_le Nat.and_le_right
  have e : (x &&& 255) = Int32.ofNat (x &&& 255).toBitVec.toNat := by
    apply Int32.toBitVec_inj.mp
    show _ = BitVec.ofNat 32 _
    rw [BitVec.ofNat_toNat]; simp
  rw [e]
  exact t ⟨_, h⟩
theorem own_chx_hp (pc : Int32) : ¬ own_chx pc < 0 ∧ ¬ (255 : Int32) < own_chx pc := by
  unfold own_chx own_chb
  exact own_fin256 (P := fun y => ¬ nar .char (Int32.toUInt32 (if (if_icmp.holds .lt y (48 : Int32)) = true then y else (if (if_icmp.holds .gt y (57 : Int32)) = true then y else (y + (10 : Int32))))).toUInt16.toUInt32.toInt32 < 0 ∧ ¬ (255 : Int32) < nar .char (Int32.toUInt32 (if (if_icmp.holds .lt y (48 : Int32)) = true then y else (if (if_icmp.holds .gt y (57 : Int32)) = true then y else (y + (10 : Int32))))).toUInt16.toUInt32.toInt32) (by decide +kernel) pc
theorem own_chx_no (pc : Int32) : own_good (own_chx pc) = false := by
  unfold own_chx own_chb
  exact own_fin256 (P := fun y => own_good (nar .char (Int32.toUInt32 (if (if_icmp.holds .lt y (48 : Int32)) = true then y else (if (if_icmp.holds .gt y (57 : Int32)) = true then y else (y + (10 : Int32))))).toUInt16.toUInt32.toInt32) = false) (by decide +kernel) pc
theorem own_ofNat32 {x : Int32} {k : Nat} (h : x.toInt = k) : x = Int32.ofNat k := by
  rw [← Int32.ofInt_toInt x, h]; rfl
theorem own_dchr {d : Int32} {k : Nat} (h : d.toInt = k) (h9 : k ≤ 9) : nar .char (nar .char ((Int32.toUInt32 ((48 : Int32) + d)).toUInt16.toUInt32.toInt32)) = own_chr k := by
  rw [own_ofNat32 h]
  exact own_fin10 (P := fun k => nar .char (nar .char ((Int32.toUInt32 ((48 : Int32) + Int32.ofNat k)).toUInt16.toUInt32.toInt32)) = own_chr k) (by decide +kernel) h9
theorem own_lrem_nn {x : Int64} (hx : 0 ≤ x.toInt) : (x - x / (10 : Int64) * (10 : Int64)).toInt = x.toInt % 10 := by
  have h1 := x.toInt_lt; have h2 := x.le_toInt
  have e10 : (10 : Int64).toInt = 10 := rfl
  have hq : (x / (10 : Int64)).toInt = x.toInt / 10 := by rw [own_div10, Int.tdiv_eq_ediv_of_nonneg hx]
  have hm : (x / (10 : Int64) * (10 : Int64)).toInt = x.toInt / 10 * 10 := by rw [own_mul64 (by rw [hq, e10]; omega) (by rw [hq, e10]; omega), hq, e10]
  rw [own_sub64 (by rw [hm]; omega) (by rw [hm]; omega), hm]; omega
theorem own_divp {x y : Int64} {V P : Nat} (hx : x.toInt = V) (hy : y.toInt = P) : (x / y).toInt = (V / P : Nat) := by
  have h1 := x.toInt_lt
  have q : V / P ≤ V := Nat.div_le_self _ _
  rw [Int64.toInt_div, hx, hy, Int.tdiv_eq_ediv_of_nonneg (by omega), ← Int.natCast_ediv]
  generalize V / P = Q at q ⊢
  exact Jvm.Kit.bmod64 (by omega) (by omega)
theorem own_l2i {x : Int64} {k : Nat} (h : x.toInt = k) (h9 : k ≤ 9) : (Int64.toInt32 x).toInt = k := by
  have : x = Int64.ofNat k := by rw [← Int64.ofInt_toInt x, h]; rfl
  rw [this]
  exact own_fin10 (P := fun k => (Int64.toInt32 (Int64.ofNat k)).toInt = (k : Int)) (by decide +kernel) h9
theorem own_dig_chr {v : Int64} {top n : Int32} {V Tp N : Nat} (hv : v.toInt = V) (ht : top.toInt = Tp) (hn : n.toInt = N) (h9 : Tp ≤ 9) {i : Int32} {k : Nat} (hi : i.toInt = k) (hk : k ≤ 19) : nar .char (dig_res v top n i) = own_chr (own_dg V Tp N k) := by
  have e19 : (19 : Int32).toInt = 19 := rfl
  unfold dig_res own_dg
  by_cases c1 : if_icmp.holds .lt i n = true
  · have l1 := (own_c_lt _ _).mp c1
    rw [if_pos c1, if_pos (show k < N by omega)]
    by_cases c2 : if_icmp.holds .ne i (19 : Int32) = true
    · have l2 := (own_c_ne _ _).mp c2
      rw [e19] at l2
      rw [if_pos c2, if_neg (by omega)]
      have hp : (own_pj i).toInt = (10 ^ k : Nat) := by
        have e : i.toNatClampNeg = k := by unfold Int32.toNatClampNeg; omega
        unfold own_pj; rw [e]; exact own_pj_nat (by omega)
      have hd := own_divp hv hp
      have hr : ((v / (own_pj i)) - (v / (own_pj i)) / (10 : Int64) * (10 : Int64)).toInt = (V / 10 ^ k % 10 : Nat) := by
        rw [own_lrem_nn (by rw [hd]; exact Int.natCast_nonneg _), hd]
        generalize V / 10 ^ k = Q
        omega
      exact own_dchr (own_l2i hr (by omega)) (by omega)
    · have l2 : i.toInt = 19 := by
        have := fun q => c2 ((own_c_ne _ _).mpr q)
        rw [e19] at this
        exact Classical.not_not.mp this
      rw [if_neg c2, if_pos (by omega)]
      exact own_dchr ht h9
  · have l1 : ¬ i.toInt < n.toInt := fun q => c1 ((own_c_lt _ _).mpr q)
    rw [if_neg c1, if_neg (by omega)]
    rfl
theorem own_ts_eq {v : Int64} {top n : Int32} {V Tp N : Nat} (hv : v.toInt = V) (ht : top.toInt = Tp) (hn : n.toInt = N) (h9 : Tp ≤ 9) : own_ts v top n = (own_down (own_dg V Tp N) 20).map own_chr := by
  have t := fun (i : Int32) (k : Nat) (hi : i.toInt = k) (hk : k ≤ 19) => own_dig_chr hv ht hn h9 hi hk
  unfold own_ts
  rw [t 19 19 rfl (by decide), t 18 18 rfl (by decide), t 17 17 rfl (by decide), t 16 16 rfl (by decide), t 15 15 rfl (by decide), t 14 14 rfl (by decide), t 13 13 rfl (by decide), t 12 12 rfl (by decide), t 11 11 rfl (by decide), t 10 10 rfl (by decide), t 9 9 rfl (by decide), t 8 8 rfl (by decide), t 7 7 rfl (by decide), t 6 6 rfl (by decide), t 5 5 rfl (by decide), t 4 4 rfl (by decide), t 3 3 rfl (by decide), t 2 2 rfl (by decide), t 1 1 rfl (by decide), t 0 0 rfl (by decide)]
  rfl
theorem own_vN (pa : Int64) (pp pd : Int32) : ∃ V : Nat, (sb_v pa pp pd).toInt = V ∧ V < 9223372036854775808 := by
  have h := Jvm.Kit.i64_mask pa 9223372036854775807 (k := 63) (by decide) (by decide)
  refine ⟨(pa.toInt % 2 ^ 63).toNat, ?_, ?_⟩
  · unfold sb_v; rw [h]; omega
  · omega
theorem own_nN (pa : Int64) (pp pd : Int32) : ∃ N : Nat, (sb_n pa pp pd).toInt = N ∧ N ≤ 20 := by
  have h := own_mask31 pp
  have e : (21 : Int32).toInt = 21 := rfl
  refine ⟨((pp &&& 2147483647).toInt % 21).toNat, ?_, ?_⟩
  · unfold sb_n; rw [own_irem_nn h.1, e]; omega
  · omega
theorem own_tN (pa : Int64) (pp pd : Int32) : ∃ Tp : Nat, (sb_top pa pp pd).toInt = Tp ∧ Tp ≤ 9 := by
  have h := own_mask31 pd
  have e : (10 : Int32).toInt = 10 := rfl
  refine ⟨((pd &&& 2147483647).toInt % 10).toNat, ?_, ?_⟩
  · unfold sb_top; rw [own_irem_nn h.1, e]; omega
  · omega
theorem own_n19 (pa : Int64) (pp pd : Int32) (h : if_icmp.holds .lt (sb_n pa pp pd) (19 : Int32) = true) : ¬ (sb_n pa pp pd) < 0 ∧ (sb_n pa pp pd) < (19 : Int32) := by
  obtain ⟨N, hN, -⟩ := own_nN pa pp pd
  have q := (own_c_lt _ _).mp h
  have e0 : (0 : Int32).toInt = 0 := rfl
  constructor
  · rw [Int32.lt_iff_toInt_lt, e0]; omega
  · rw [Int32.lt_iff_toInt_lt]; exact q
theorem own_lenF (pa : Int64) (pp pq pc pd : Int32) : (own_cs pq pc (own_ts (sb_v pa pp pd) (sb_top pa pp pd) (sb_n pa pp pd))).length = 20 := by
  unfold own_cs
  split
  · rfl
  · rw [List.length_set]; rfl
theorem own_hpF (pa : Int64) (pp pq pc pd : Int32) : ∀ c ∈ own_cs pq pc (own_ts (sb_v pa pp pd) (sb_top pa pp pd) (sb_n pa pp pd)), ¬ c < 0 ∧ ¬ (255 : Int32) < c := by
  obtain ⟨V, hV, -⟩ := own_vN pa pp pd
  obtain ⟨N, hN, -⟩ := own_nN pa pp pd
  obtain ⟨Tp, hT, h9⟩ := own_tN pa pp pd
  have base : ∀ c ∈ own_ts (sb_v pa pp pd) (sb_top pa pp pd) (sb_n pa pp pd), ¬ c < 0 ∧ ¬ (255 : Int32) < c := by
    rw [own_ts_eq hV hT hN h9]
    intro c hc
    obtain ⟨d, hd, rfl⟩ := List.mem_map.mp hc
    exact own_chr_hp (own_down_le (own_dg_le h9) 20 d hd)
  intro c hc
  unfold own_cs at hc
  split at hc
  · exact base c hc
  · rcases List.mem_or_eq_of_mem_set hc with q | q
    · exact base c q
    · rw [q]; exact own_chx_hp pc
theorem own_big_ne {n top : Int32} {N Tp : Nat} (hn : n.toInt = N) (ht : top.toInt = Tp) : (ifCond.holds .ne (own_big n top) = true) ↔ (N = 20 ∧ Tp ≠ 0) := by
  have e20 : (20 : Int32).toInt = 20 := rfl
  unfold own_big
  by_cases c : if_icmp.holds .ne n (20 : Int32) = true
  · have q := (own_c_ne _ _).mp c
    rw [if_pos c]
    exact ⟨fun h => absurd h (by decide), fun h => absurd h.1 (by omega)⟩
  · have q : n.toInt = 20 := by
      have := fun q => c ((own_c_ne _ _).mpr q)
      rw [e20] at this; exact Classical.not_not.mp this
    rw [if_neg c]
    by_cases c2 : ifCond.holds .eq top = true
    · have q2 := (own_h_eq _).mp c2
      rw [if_pos c2]
      exact ⟨fun h => absurd h (by decide), fun h => absurd h.2 (by omega)⟩
    · have q2 : ¬ top.toInt = 0 := fun q => c2 ((own_h_eq _).mpr q)
      rw [if_neg c2]
      exact ⟨fun _ => ⟨by omega, by omega⟩, fun _ => by decide⟩
theorem own_lremp {x y : Int64} {V P : Nat} (hx : x.toInt = V) (hy : y.toInt = P) : (x - x / y * y).toInt = (V % P : Nat) := by
  have h1 := x.toInt_lt
  have hd := own_divp hx hy
  have hmul : (V / P) * P ≤ V := Nat.div_mul_le_self V P
  have hm : (x / y * y).toInt = ((V / P * P : Nat) : Int) := by
    rw [own_mul64 (by rw [hd, hy, ← Int.natCast_mul]; omega) (by rw [hd, hy, ← Int.natCast_mul]; omega), hd, hy, ← Int.natCast_mul]
  have e : V % P = V - V / P * P := by
    have := Nat.div_add_mod V P
    rw [Nat.mul_comm] at this; omega
  rw [own_sub64 (by rw [hm]; omega) (by rw [hm]; omega), hm, hx, e]
  omega
theorem own_exp {cs : List Int32} {mx val : Int64} {W : Nat} (hval : val.toInt = W) (h : cnt_res mx cs = if (W : Int) ≤ mx.toInt then Int64.ofInt W else 0) :
    cnt_res mx cs = (if (ifCond.holds .lt (XT.cmpL val (1 : Int64))) = true then (0 : Int64) else (if (ifCond.holds .le (XT.cmpL val mx)) = true then val else (0 : Int64))) := by
  have e1 : (1 : Int64).toInt = 1 := rfl
  have ev : Int64.ofInt (W : Int) = val := by rw [← hval, Int64.ofInt_toInt]
  rw [h, ev]
  by_cases c : ifCond.holds .lt (XT.cmpL val (1 : Int64)) = true
  · have q := (own_h_lt _).mp c
    rw [own_L, e1, hval] at q
    have w0 : W = 0 := by
      by_cases a : (1 : Int) < W
      · rw [if_pos a] at q; omega
      · rw [if_neg a] at q
        by_cases b : (W : Int) = 1
        · rw [if_pos b] at q; omega
        · omega
    have v0 : val = 0 := by rw [← ev, w0]; rfl
    rw [if_pos c, v0]; split <;> rfl
  · rw [if_neg c]
    by_cases c2 : ifCond.holds .le (XT.cmpL val mx) = true
    · have q := (own_h_le _).mp c2
      rw [own_L, hval] at q
      rw [if_pos c2, if_pos]
      by_cases a : mx.toInt < (W : Int)
      · rw [if_pos a] at q; omega
      · omega
    · rw [if_neg c2, if_neg]
      intro a
      apply c2
      rw [own_h_le, own_L, hval, if_neg (by omega)]
      split <;> omega
theorem own_finF (pa : Int64) (pp pq pc pd : Int32) (pm : Int64) : ifCond.holds .ne (XT.cmpL (cnt_res (lf_max pa pp pq pc pd pm) (own_cs pq pc (own_ts (sb_v pa pp pd) (sb_top pa pp pd) (sb_n pa pp pd)))) (lf_exp pa pp pq pc pd pm)) = false := by
  refine own_cmp_self ?_
  obtain ⟨mx, emx⟩ : ∃ z, z = lf_max pa pp pq pc pd pm := ⟨_, rfl⟩
  unfold lf_exp
  rw [← emx]
  obtain ⟨V, hV, hV2⟩ := own_vN pa pp pd
  obtain ⟨N, hN, hN2⟩ := own_nN pa pp pd
  obtain ⟨Tp, hT, h9⟩ := own_tN pa pp pd
  rcases hb : ifCond.holds .eq (pq &&& (1 : Int32)) with _ | _
  · rw [own_bad1 hb, if_pos (by decide)]
    unfold own_cs cnt_res
    rw [if_neg (c := ifCond.holds .eq (pq &&& (1 : Int32)) = true) (by rw [hb]; exact Bool.false_ne_true)]
    refine if_neg ?_
    intro q
    have ql := own_ixn pq
    have m : own_chx pc ∈ (own_ts (sb_v pa pp pd) (sb_top pa pp pd) (sb_n pa pp pd)).set (own_ixv pq).toNatClampNeg (own_chx pc) := List.mem_set (by exact ql) _
    have := List.all_eq_true.mp q _ m
    rw [own_chx_no] at this
    exact Bool.false_ne_true this
  · rw [own_bad0 hb, if_neg (by decide)]
    unfold own_cs
    rw [if_pos hb, own_ts_eq hV hT hN h9]
    have hr := own_res mx (own_down (own_dg V Tp N) 20) (own_down_le (own_dg_le h9) 20) (by unfold own_down; simp)
    rw [own_H_down, Nat.zero_mul, Nat.zero_add] at hr
    have hm1 := mx.toInt_lt
    by_cases c : ifCond.holds .ne (own_big (sb_n pa pp pd) (sb_top pa pp pd)) = true
    · obtain ⟨n20, t0⟩ := (own_big_ne hN hT).mp c
      rw [if_pos c, hr, n20, own_sum_20]
      refine if_neg ?_
      have this : 10 ^ 19 ≤ Tp * 10 ^ 19 + V % 10 ^ 19 := Nat.le_trans (Nat.le_mul_of_pos_left _ (Nat.pos_of_ne_zero t0)) (Nat.le_add_right _ _)
      generalize Tp * 10 ^ 19 + V % 10 ^ 19 = Q at this ⊢
      have e : (10 : Nat) ^ 19 = 10000000000000000000 := by decide
      rw [e] at this
      omega
    · rw [if_neg c]
      have nb : ¬ (N = 20 ∧ Tp ≠ 0) := fun q => c ((own_big_ne hN hT).mpr q)
      have e19 : (19 : Int32).toInt = 19 := rfl
      have big : (10 : Nat) ^ 19 = 10000000000000000000 := by decide
      have hval : (lf_val pa pp pq pc pd pm).toInt = (own_sum (own_dg V Tp N) 20 : Nat) := by
        unfold lf_val
        by_cases l : if_icmp.holds .lt (sb_n pa pp pd) (19 : Int32) = true
        · have lq := (own_c_lt _ _).mp l
          rw [hN, e19] at lq
          have ei : (sb_n pa pp pd).toNatClampNeg = N := by unfold Int32.toNatClampNeg; omega
          have hp : (own_pj (sb_n pa pp pd)).toInt = (10 ^ N : Nat) := by unfold own_pj; rw [ei]; exact own_pj_nat (by omega)
          rw [if_pos l, own_lremp hV hp]
          have h20 : N + (20 - N) = 20 := by omega
          rw [← h20, own_sum_hi V Tp N (by omega)]
        · have lq : ¬ (sb_n pa pp pd).toInt < 19 := fun q => l ((own_c_lt _ _).mpr q)
          rw [if_neg l, hV]
          by_cases n20 : N = 20
          · have t0 : Tp = 0 := by omega
            rw [n20, own_sum_20, t0, Nat.zero_mul, Nat.zero_add, Nat.mod_eq_of_lt (by omega)]
          · have n19 : N = 19 := by omega
            have := own_sum_hi V Tp N (by omega) 1
            rw [n19] at this ⊢
            rw [this, Nat.mod_eq_of_lt (by omega)]
      exact own_exp hval hr
theorem own_sxf (pa : Int64) (pp pq pc pd : Int32) (pm : Int64) {P : Int32 → Prop} (t : ∀ k : Fin 256, P ((Int32.ofNat k.val).toUInt32.toUInt16.toUInt32.toInt32)) : P (lt_sx pa pp pq pc pd pm) := by
  unfold lt_sx
  exact own_fin256 (P := fun y => P (y.toUInt32.toUInt16.toUInt32.toInt32)) t pc
theorem own_hpT (pa : Int64) (pp pq pc pd : Int32) (pm : Int64) : ∀ c ∈ ([lt_sx pa pp pq pc pd pm] : List Int32), ¬ c < 0 ∧ ¬ (255 : Int32) < c := by
  intro c hc
  rw [List.mem_singleton.mp hc]
  exact own_sxf pa pp pq pc pd pm (P := fun y => ¬ y < 0 ∧ ¬ (255 : Int32) < y) (by decide +kernel)
theorem own_hcT (pc : Int32) : if_icmp.holds .gt ((Int32.toUInt32 (pc &&& (255 : Int32))).toUInt16.toUInt32.toInt32) (255 : Int32) = false :=
  own_fin256 (P := fun y => if_icmp.holds .gt (y.toUInt32.toUInt16.toUInt32.toInt32) (255 : Int32) = false) (by decide +kernel) pc
theorem own_nb (x : Int32) : nar .byte (Int32.toInt8 x).toInt32 = x.toInt8.toInt32 := by
  show ((Int32.toInt8 x).toInt32).toInt8.toInt32 = _
  rw [Int8.toInt8_toInt32]
theorem own_vof {Z : State} {h : Heap} {a : Addr} {k : ClassId} {d : Value} {ch : Int32} (F : Arv Z h a k .byte (1 : Int32) [(.int (nar .byte ((Int32.toInt8 ch).toInt32)))] d) : Arv Z h a k .byte (1 : Int32) ((([ch] : List Int32).map (fun c => c.toInt8.toInt32)).map Value.int) d := by
  rw [own_nb] at F; exact F
theorem own_sx_no {y : Int32} (h : (if (if_icmp.holds .lt y (48 : Int32)) = true then (0 : Int32) else (if (if_icmp.holds .gt y (57 : Int32)) = true then (0 : Int32) else (1 : Int32))) = 0) : own_good y = false := by
  unfold own_good
  by_cases c : if_icmp.holds .lt y (48 : Int32) = true
  · rw [c]; rfl
  · rw [if_neg c] at h
    by_cases c2 : if_icmp.holds .gt y (57 : Int32) = true
    · have q := (own_c_gt _ _).mp c2
      have : if_icmp.holds .le y (57 : Int32) = false := own_f_of (own_c_le _ _) (by omega)
      rw [this, Bool.and_false]
    · rw [if_neg c2] at h; exact absurd h (by decide)
theorem own_sx_yes {y : Int32} (h : ¬ (if (if_icmp.holds .lt y (48 : Int32)) = true then (0 : Int32) else (if (if_icmp.holds .gt y (57 : Int32)) = true then (0 : Int32) else (1 : Int32))) = 0) : 48 ≤ y.toInt ∧ y.toInt ≤ 57 := by
  have e48 : (48 : Int32).toInt = 48 := rfl
  have e57 : (57 : Int32).toInt = 57 := rfl
  by_cases c : if_icmp.holds .lt y (48 : Int32) = true
  · rw [if_pos c] at h; exact absurd rfl h
  · rw [if_neg c] at h
    by_cases c2 : if_icmp.holds .gt y (57 : Int32) = true
    · rw [if_pos c2] at h; exact absurd rfl h
    · have q1 : ¬ y.toInt < 48 := fun q => c ((own_c_lt _ _).mpr q)
      have q2 : ¬ 57 < y.toInt := fun q => c2 ((own_c_gt _ _).mpr q)
      omega
theorem own_gtle (x y : Int64) (a b : Int64) : (if (ifCond.holds .gt (XT.cmpL x y)) = true then a else b) = (if (ifCond.holds .le (XT.cmpL x y)) = true then b else a) := by
  by_cases c : ifCond.holds .gt (XT.cmpL x y) = true
  · have q := (own_h_gt _).mp c
    rw [if_pos c, if_neg (fun r => by have := (own_h_le _).mp r; omega)]
  · have q : ¬ 0 < (XT.cmpL x y).toInt := fun q => c ((own_h_gt _).mpr q)
    rw [if_neg c, if_pos ((own_h_le _).mpr (by omega))]
theorem own_finT (pa : Int64) (pp pq pc pd : Int32) (pm : Int64) : ifCond.holds .ne (XT.cmpL (cnt_res (lt_max pa pp pq pc pd pm) ([lt_sx pa pp pq pc pd pm] : List Int32)) (lt_exp pa pp pq pc pd pm)) = false := by
  refine own_cmp_self ?_
  obtain ⟨mx, emx⟩ : ∃ z, z = lt_max pa pp pq pc pd pm := ⟨_, rfl⟩
  unfold lt_exp
  rw [← emx]
  by_cases c : lt_isd pa pp pq pc pd pm = 0
  · rw [if_pos (by rw [c]; rfl)]
    unfold cnt_res
    refine if_neg ?_
    intro q
    have := List.all_eq_true.mp q _ (List.mem_singleton.mpr rfl)
    rw [own_sx_no c] at this
    exact Bool.false_ne_true this
  · have hne : ¬ ifCond.holds .eq (lt_isd pa pp pq pc pd pm) = true := by
      intro q
      have := (own_h_eq _).mp q
      exact c (Int32.toInt_inj.mp (by rw [this]; rfl))
    rw [if_neg hne]
    obtain ⟨l48, l57⟩ := own_sx_yes c
    obtain ⟨d, hd⟩ : ∃ d : Nat, (lt_sx pa pp pq pc pd pm).toInt = ((48 + d : Nat) : Int) := ⟨((lt_sx pa pp pq pc pd pm).toInt - 48).toNat, by omega⟩
    have h9 : d ≤ 9 := by omega
    have es : lt_sx pa pp pq pc pd pm = own_chr d := own_ofNat32 hd
    have hval : (lt_val pa pp pq pc pd pm).toInt = d := by
      unfold lt_val
      rw [if_neg hne, es]
      exact own_chr_dig h9
    have hr := own_res mx [d] (fun x hx => by rw [List.mem_singleton.mp hx]; exact h9) (by simp)
    have e := own_exp (cs := [own_chr d]) (W := d) hval (by
      have e2 : own_H [d] 0 = d := by show 10 * 0 + d = d; omega
      rw [e2] at hr; exact hr)
    rw [es, e, own_gtle]
theorem ef_dig (m : MethodId) (vv : Int64) (top : Int32) (n : Int32) (i : Int32) (pw : Addr) : entryFrame m #[(.long vv), (.int top), (.int n), (.int i), (.ref pw)] 6 = (mkF m 0 #[.val (.long vv), .second, .val (.int top), .val (.int n), .val (.int i), .val (.ref pw)] []) := by first | (simp [entryFrame, mkF, argsToLocals, Value.category]; done) | rfl
def Q_dig (Z : State) (vv : Int64) (top : Int32) (n : Int32) (i : Int32) (pw : Addr) (kp : ClassId) (h0 : Heap) (n0 : Nat) (v : Option Value) (h : Heap) (L : List Loc) : Prop := v = some (.int (dig_res vv top n i)) ∧ Fr n0 L ∧ h = h0
set_option maxRecDepth 65536 in
set_option maxHeartbeats 40000000 in
theorem rm_dig (l : Launch) (Z : State) (a0 : Array Value) (hw : ∀ d ∈ tables_1, d.before a0 Z = true) (ws : List Jvm.Cond) (vv : Int64) (top : Int32) (n : Int32) (i : Int32) (pw : Addr) (kp : ClassId) (h0 : Heap) (n0 : Nat) (Z0 : n0 ≤ h0.size) (k0_ : Arv Z h0 pw kp .long (19 : Int32) own_pwv (.long (0 : Int64))) (hi0 : 0 ≤ i.toInt) (hi1 : i.toInt ≤ 19)  :
    MetFree l (⟨"com/example/kontrakt/kontrakt/input/NumeralsCountPinLaw", "dig", "(JIII[J)C"⟩ : MethodName) (head1 (Jvm.Cond.code (⟨"com/example/kontrakt/kontrakt/input/NumeralsCountPinLaw", "dig", "(JIII[J)C"⟩ : MethodName) method_2_code 6 (some .char) :: ws) ({ frames := 0, cells := 0, slots := 0, locals := 0 } : Room)) (fun a U => a = #[(.long vv), (.int top), (.int n), (.int i), (.ref pw)] ∧ Z.Warmed39 U.vm ∧ U.heap = h0) (fun _ _ _ _ _ => True) (fun _ U o U' => ∃ v L, o = .returned v ∧ Q_dig Z vv top n i pw kp h0 n0 v U'.heap L ∧ FrameEnd U o U' L ({ frames := 0, cells := 0, slots := 0, locals := 0 } : Room).cells ({ frames := 0, cells := 0, slots := 0, locals := 0 } : Room).slots) := by
  refine MetFree.of_bodySF (plainFor_of_name pn_1) hisR ?_
  intro p e s m args below meth c s₁ Bd hml0 hP hK
  obtain ⟨rfl, hZ, hh⟩ := hP
  have hx := Bd.exec
  have hby := Bd.bytes
  have hml : c.maxLocals = 6 := hml0
  have hown : s.vm.findClass "com/example/kontrakt/kontrakt/input/NumeralsCountPinLaw" = some m.cls := findClass_of_methodNamed Bd.named
  have hnm := (name_of_methodNamed Bd.named Bd.method).1
  have X0 : Stand p l e ({ frames := 0, cells := 0, slots := 0, locals := 0 } : Room) s m #[(.long vv), (.int top), (.int n), (.int i), (.ref pw)] below meth c s₁ [] 0 0 := Stand.of_body Bd
  have e0 : s₁.heap = h0 := by rw [← hh, Bd.state]; rfl
  have N0 := Fr.nil n0
  have pre0 : ∀ t, Steps p.tables e below (s₁.setTop (mkF m 0 #[.val (.long vv), .second, .val (.int top), .val (.int n), .val (.int i), .val (.ref pw)] [])) t → Steps p.tables e below (s₁.setTop (entryFrame m #[(.long vv), (.int top), (.int n), (.int i), (.ref pw)] 6)) t := fun t k => castTop (ef_dig m vv top n i pw) k
  obtain ⟨c1, A1, q1, S1, M1, H1, U1⟩ := id k0_
  obtain ⟨fs, hr, hrun, hended, hW, hsame⟩ := X0.leave (v := some (.int (dig_res vv top n i))) (fun h => by rw [Bd.returns] at h; cases h)
  refine ⟨_, _, pre0 _ ?_, hrun, hended, _, _, rfl, ?_, ⟨_, rfl⟩, hW, hsame.mono (Nat.le_of_ble_eq_true rfl) (Nat.le_of_ble_eq_true rfl)⟩
  · show Steps p.tables e below (s₁.setTop (mkF m 0 #[.val (.long vv), .second, .val (.int top), .val (.int n), .val (.int i), .val (.ref pw)] [])) _
    refine XS.iload X0.here hx rfl (hb hby d1_0) rfl ?_
    show Steps p.tables e below (s₁.setTop (mkF m 2 #[.val (.long vv), .second, .val (.int top), .val (.int n), .val (.int i), .val (.ref pw)] [(.int i)])) _
    refine XS.iloadN X0.here hx rfl (hb hby d1_2) rfl ?_
    show Steps p.tables e below (s₁.setTop (mkF m 3 #[.val (.long vv), .second, .val (.int top), .val (.int n), .val (.int i), .val (.ref pw)] [(.int n), (.int i)])) _
    by_cases c2 : (if_icmp.holds .lt i n) = true
    · refine XS.icmpYes X0.here hx rfl (pc0 := 3) (pc' := 9) rfl (hb hby d1_3) rfl c2 (by decide) (by decide) ?_
      show Steps p.tables e below (s₁.setTop (mkF m 9 #[.val (.long vv), .second, .val (.int top), .val (.int n), .val (.int i), .val (.ref pw)] [])) _
      refine XS.iload X0.here hx rfl (hb hby d1_9) rfl ?_
      show Steps p.tables e below (s₁.setTop (mkF m 11 #[.val (.long vv), .second, .val (.int top), .val (.int n), .val (.int i), .val (.ref pw)] [(.int i)])) _
      refine XS.bipush X0.here hx rfl (hb hby d1_11) ?_
      show Steps p.tables e below (s₁.setTop (mkF m 13 #[.val (.long vv), .second, .val (.int top), .val (.int n), .val (.int i), .val (.ref pw)] [(.int (19 : Int32)), (.int i)])) _
      by_cases c3 : (if_icmp.holds .ne i (19 : Int32)) = true
      · refine XS.icmpYes X0.here hx rfl (pc0 := 13) (pc' := 22) rfl (hb hby d1_13) rfl c3 (by decide) (by decide) ?_
        show Steps p.tables e below (s₁.setTop (mkF m 22 #[.val (.long vv), .second, .val (.int top), .val (.int n), .val (.int i), .val (.ref pw)] [])) _
        refine XS.bipush X0.here hx rfl (hb hby d1_22) ?_
        show Steps p.tables e below (s₁.setTop (mkF m 24 #[.val (.long vv), .second, .val (.int top), .val (.int n), .val (.int i), .val (.ref pw)] [(.int (48 : Int32))])) _
        refine XT.lloadN X0.here hx rfl (hb hby d1_24) rfl ?_
        show Steps p.tables e below (s₁.setTop (mkF m 25 #[.val (.long vv), .second, .val (.int top), .val (.int n), .val (.int i), .val (.ref pw)] [(.long vv), (.int (48 : Int32))])) _
        refine XS.aload X0.here hx rfl (hb hby d1_25) rfl rfl ?_
        show Steps p.tables e below (s₁.setTop (mkF m 27 #[.val (.long vv), .second, .val (.int top), .val (.int n), .val (.int i), .val (.ref pw)] [(.ref pw), (.long vv), (.int (48 : Int32))])) _
        refine XS.iload X0.here hx rfl (hb hby d1_27) rfl ?_
        show Steps p.tables e below (s₁.setTop (mkF m 29 #[.val (.long vv), .second, .val (.int top), .val (.int n), .val (.int i), .val (.ref pw)] [(.int i), (.ref pw), (.long vv), (.int (48 : Int32))])) _
        refine X0.laload hx (j := i) (v := (.long (own_pj i))) (by rw [e0]; exact A1.1) (State.isArrayOf_alike hZ.alike A1.2.1) A1.2.2 (inb_of S1 (own_19 hi0 hi1 (by assumption))) (H1.at (inb_of S1 (own_19 hi0 hi1 (by assumption))) (own_pat i)) (g := (mkF m 29 #[.val (.long vv), .second, .val (.int top), .val (.int n), .val (.int i), .val (.ref pw)] [(.int i), (.ref pw), (.long vv), (.int (48 : Int32))])) rfl rfl (hb hby d1_29) _ ?_
        show Steps p.tables e below (s₁.setTop (mkF m 30 #[.val (.long vv), .second, .val (.int top), .val (.int n), .val (.int i), .val (.ref pw)] [(.long (own_pj i)), (.long vv), (.int (48 : Int32))])) _
        refine XT.ldiv X0.here hx rfl (hb hby d1_30) rfl (own_pj_ne (own_19 hi0 hi1 (by assumption))) ?_
        show Steps p.tables e below (s₁.setTop (mkF m 31 #[.val (.long vv), .second, .val (.int top), .val (.int n), .val (.int i), .val (.ref pw)] [(.long (vv / (own_pj i))), (.int (48 : Int32))])) _
        refine X0.ldc2J hx hown (mvT hZ (hw _ (List.mem_of_getElem? (i := 3) rfl))) (g := (mkF m 31 #[.val (.long vv), .second, .val (.int top), .val (.int n), .val (.int i), .val (.ref pw)] [(.long (vv / (own_pj i))), (.int (48 : Int32))])) rfl (hb hby d1_31) ?_
        show Steps p.tables e below (s₁.setTop (mkF m 34 #[.val (.long vv), .second, .val (.int top), .val (.int n), .val (.int i), .val (.ref pw)] [(.long (10 : Int64)), (.long (vv / (own_pj i))), (.int (48 : Int32))])) _
        refine XT.lrem X0.here hx rfl (hb hby d1_34) rfl (by decide) ?_
        show Steps p.tables e below (s₁.setTop (mkF m 35 #[.val (.long vv), .second, .val (.int top), .val (.int n), .val (.int i), .val (.ref pw)] [(.long ((vv / (own_pj i)) - (vv / (own_pj i)) / (10 : Int64) * (10 : Int64))), (.int (48 : Int32))])) _
        refine XT.l2i X0.here hx rfl (hb hby d1_35) rfl ?_
        show Steps p.tables e below (s₁.setTop (mkF m 36 #[.val (.long vv), .second, .val (.int top), .val (.int n), .val (.int i), .val (.ref pw)] [(.int (Int64.toInt32 ((vv / (own_pj i)) - (vv / (own_pj i)) / (10 : Int64) * (10 : Int64)))), (.int (48 : Int32))])) _
        refine XS.iadd X0.here hx rfl (hb hby d1_36) rfl ?_
        show Steps p.tables e below (s₁.setTop (mkF m 37 #[.val (.long vv), .second, .val (.int top), .val (.int n), .val (.int i), .val (.ref pw)] [(.int ((48 : Int32) + (Int64.toInt32 ((vv / (own_pj i)) - (vv / (own_pj i)) / (10 : Int64) * (10 : Int64)))))])) _
        refine XT.i2c X0.here hx rfl (hb hby d1_37) rfl ?_
        show Steps p.tables e below (s₁.setTop (mkF m 38 #[.val (.long vv), .second, .val (.int top), .val (.int n), .val (.int i), .val (.ref pw)] [(.int ((Int32.toUInt32 ((48 : Int32) + (Int64.toInt32 ((vv / (own_pj i)) - (vv / (own_pj i)) / (10 : Int64) * (10 : Int64))))).toUInt16.toUInt32.toInt32))])) _
        have q : (dig_res vv top n i) = (nar .char ((Int32.toUInt32 ((48 : Int32) + (Int64.toInt32 ((vv / (own_pj i)) - (vv / (own_pj i)) / (10 : Int64) * (10 : Int64))))).toUInt16.toUInt32.toInt32)) := by simp only [dig_res, c2, c3, if_true, if_false, Bool.false_eq_true]; try rfl
        rw [q] at hr
        exact retN X0 hx (t := .char) Bd.returns (by simp) (hb hby d1_38) hr
      · refine XS.icmpNo X0.here hx rfl (hb hby d1_13) rfl (Bool.eq_false_iff.mpr c3) ?_
        show Steps p.tables e below (s₁.setTop (mkF m 16 #[.val (.long vv), .second, .val (.int top), .val (.int n), .val (.int i), .val (.ref pw)] [])) _
        refine XS.bipush X0.here hx rfl (hb hby d1_16) ?_
        show Steps p.tables e below (s₁.setTop (mkF m 18 #[.val (.long vv), .second, .val (.int top), .val (.int n), .val (.int i), .val (.ref pw)] [(.int (48 : Int32))])) _
        refine XS.iloadN X0.here hx rfl (hb hby d1_18) rfl ?_
        show Steps p.tables e below (s₁.setTop (mkF m 19 #[.val (.long vv), .second, .val (.int top), .val (.int n), .val (.int i), .val (.ref pw)] [(.int top), (.int (48 : Int32))])) _
        refine XS.iadd X0.here hx rfl (hb hby d1_19) rfl ?_
        show Steps p.tables e below (s₁.setTop (mkF m 20 #[.val (.long vv), .second, .val (.int top), .val (.int n), .val (.int i), .val (.ref pw)] [(.int ((48 : Int32) + top))])) _
        refine XT.i2c X0.here hx rfl (hb hby d1_20) rfl ?_
        show Steps p.tables e below (s₁.setTop (mkF m 21 #[.val (.long vv), .second, .val (.int top), .val (.int n), .val (.int i), .val (.ref pw)] [(.int ((Int32.toUInt32 ((48 : Int32) + top)).toUInt16.toUInt32.toInt32))])) _
        have q : (dig_res vv top n i) = (nar .char ((Int32.toUInt32 ((48 : Int32) + top)).toUInt16.toUInt32.toInt32)) := by simp only [dig_res, c2, c3, if_true, if_false, Bool.false_eq_true]; try rfl
        rw [q] at hr
        exact retN X0 hx (t := .char) Bd.returns (by simp) (hb hby d1_21) hr
    · refine XS.icmpNo X0.here hx rfl (hb hby d1_3) rfl (Bool.eq_false_iff.mpr c2) ?_
      show Steps p.tables e below (s₁.setTop (mkF m 6 #[.val (.long vv), .second, .val (.int top), .val (.int n), .val (.int i), .val (.ref pw)] [])) _
      refine XS.bipush X0.here hx rfl (hb hby d1_6) ?_
      show Steps p.tables e below (s₁.setTop (mkF m 8 #[.val (.long vv), .second, .val (.int top), .val (.int n), .val (.int i), .val (.ref pw)] [(.int (48 : Int32))])) _
      have q : (dig_res vv top n i) = (nar .char (48 : Int32)) := by simp only [dig_res, c2, if_true, if_false, Bool.false_eq_true]; try rfl
      rw [q] at hr
      exact retN X0 hx (t := .char) Bd.returns (by simp) (hb hby d1_8) hr
  · show Q_dig Z vv top n i pw kp h0 n0 _ s₁.heap _
    exact ⟨rfl, N0, e0⟩
theorem ef_can (m : MethodId) (ch : Int32) : entryFrame m #[(.int ch)] 1 = (mkF m 0 #[.val (.int ch)] []) := by first | (simp [entryFrame, mkF, argsToLocals, Value.category]; done) | rfl
def Q_can (Z : State) (ch : Int32)  (h0 : Heap) (n0 : Nat) (v : Option Value) (h : Heap) (L : List Loc) : Prop := v = some (.int (1 : Int32)) ∧ Fr n0 L ∧ h = h0
set_option maxRecDepth 65536 in
set_option maxHeartbeats 40000000 in
theorem rm_can (l : Launch) (Z : State) (a0 : Array Value) (hw : ∀ d ∈ tables_1, d.before a0 Z = true) (ws : List Jvm.Cond) (ch : Int32)  (h0 : Heap) (n0 : Nat) (Z0 : n0 ≤ h0.size)  (hc : if_icmp.holds .gt ch (255 : Int32) = false)  :
    MetFree l (⟨"java/lang/StringLatin1", "canEncode", "(C)Z"⟩ : MethodName) (head1 (Jvm.Cond.code (⟨"java/lang/StringLatin1", "canEncode", "(C)Z"⟩ : MethodName) jdk_43_method_3_code 1 (some .boolean) :: ws) ({ frames := 0, cells := 0, slots := 0, locals := 0 } : Room)) (fun a U => a = #[(.int ch)] ∧ Z.Warmed39 U.vm ∧ U.heap = h0) (fun _ _ _ _ _ => True) (fun _ U o U' => ∃ v L, o = .returned v ∧ Q_can Z ch  h0 n0 v U'.heap L ∧ FrameEnd U o U' L ({ frames := 0, cells := 0, slots := 0, locals := 0 } : Room).cells ({ frames := 0, cells := 0, slots := 0, locals := 0 } : Room).slots) := by
  refine MetFree.of_bodySF (plainFor_of_name pn_2) hisR ?_
  intro p e s m args below meth c s₁ Bd hml0 hP hK
  obtain ⟨rfl, hZ, hh⟩ := hP
  have hx := Bd.exec
  have hby := Bd.bytes
  have hml : c.maxLocals = 1 := hml0
  have hown : s.vm.findClass "java/lang/StringLatin1" = some m.cls := findClass_of_methodNamed Bd.named
  have hnm := (name_of_methodNamed Bd.named Bd.method).1
  have X0 : Stand p l e ({ frames := 0, cells := 0, slots := 0, locals := 0 } : Room) s m #[(.int ch)] below meth c s₁ [] 0 0 := Stand.of_body Bd
  have e0 : s₁.heap = h0 := by rw [← hh, Bd.state]; rfl
  have N0 := Fr.nil n0
  have pre0 : ∀ t, Steps p.tables e below (s₁.setTop (mkF m 0 #[.val (.int ch)] [])) t → Steps p.tables e below (s₁.setTop (entryFrame m #[(.int ch)] 1)) t := fun t k => castTop (ef_can m ch) k
  obtain ⟨fs, hr, hrun, hended, hW, hsame⟩ := X0.leave (v := some (.int (1 : Int32))) (fun h => by rw [Bd.returns] at h; cases h)
  refine ⟨_, _, pre0 _ ?_, hrun, hended, _, _, rfl, ?_, ⟨_, rfl⟩, hW, hsame.mono (Nat.le_of_ble_eq_true rfl) (Nat.le_of_ble_eq_true rfl)⟩
  · show Steps p.tables e below (s₁.setTop (mkF m 0 #[.val (.int ch)] [])) _
    refine XS.iloadN X0.here hx rfl (hb hby d19_0) rfl ?_
    show Steps p.tables e below (s₁.setTop (mkF m 1 #[.val (.int ch)] [(.int ch)])) _
    refine XS.sipush X0.here hx rfl (hb hby d19_1) ?_
    show Steps p.tables e below (s₁.setTop (mkF m 4 #[.val (.int ch)] [(.int (255 : Int32)), (.int ch)])) _
    refine XS.icmpNo X0.here hx rfl (hb hby d19_4) rfl hc ?_
    show Steps p.tables e below (s₁.setTop (mkF m 7 #[.val (.int ch)] [])) _
    refine XS.iconst X0.here hx rfl (hb hby d19_7) ?_
    show Steps p.tables e below (s₁.setTop (mkF m 8 #[.val (.int ch)] [(.int (1 : Int32))])) _
    refine XS.goto X0.here hx rfl (pc0 := 8) (pc' := 12) rfl (hb hby d19_8) (by decide) (by decide) ?_
    show Steps p.tables e below (s₁.setTop (mkF m 12 #[.val (.int ch)] [(.int (1 : Int32))])) _
    exact retN X0 hx (t := .boolean) Bd.returns (by simp) (hb hby d19_12) hr
  · show Q_can Z ch  h0 n0 _ s₁.heap _
    exact ⟨rfl, N0, e0⟩
theorem ef_tob (m : MethodId) (ch : Int32) : entryFrame m #[(.int ch)] 1 = (mkF m 0 #[.val (.int ch)] []) := by first | (simp [entryFrame, mkF, argsToLocals, Value.category]; done) | rfl
def Q_tob (Z : State) (ch : Int32)  (h0 : Heap) (n0 : Nat) (v : Option Value) (h : Heap) (L : List Loc) : Prop := ∃ (ad : Addr) (kx : ClassId), v = some (.ref ad) ∧ Fr n0 L ∧ Keep h0 h [] ∧ h0.size ≤ ad ∧ (Arv Z h ad kx .byte (1 : Int32) [(.int (nar .byte ((Int32.toInt8 ch).toInt32)))] (.int (0 : Int32)))
set_option maxRecDepth 65536 in
set_option maxHeartbeats 40000000 in
theorem rm_tob (l : Launch) (Z : State) (a0 : Array Value) (hw : ∀ d ∈ tables_1, d.before a0 Z = true) (ws : List Jvm.Cond) (ch : Int32)  (h0 : Heap) (n0 : Nat) (Z0 : n0 ≤ h0.size)    :
    MetFree l (⟨"java/lang/StringLatin1", "toBytes", "(C)[B"⟩ : MethodName) (head1 (Jvm.Cond.code (⟨"java/lang/StringLatin1", "toBytes", "(C)[B"⟩ : MethodName) jdk_43_method_46_code 1 (some (.array .byte)) :: ws) ({ frames := 0, cells := 1, slots := 1, locals := 0 } : Room)) (fun a U => a = #[(.int ch)] ∧ Z.Warmed39 U.vm ∧ U.heap = h0) (fun _ _ _ _ _ => True) (fun _ U o U' => ∃ v L, o = .returned v ∧ Q_tob Z ch  h0 n0 v U'.heap L ∧ FrameEnd U o U' L ({ frames := 0, cells := 1, slots := 1, locals := 0 } : Room).cells ({ frames := 0, cells := 1, slots := 1, locals := 0 } : Room).slots) := by
  refine MetFree.of_bodySF (plainFor_of_name pn_2) hisR ?_
  intro p e s m args below meth c s₁ Bd hml0 hP hK
  obtain ⟨rfl, hZ, hh⟩ := hP
  have hx := Bd.exec
  have hby := Bd.bytes
  have hml : c.maxLocals = 1 := hml0
  have hown : s.vm.findClass "java/lang/StringLatin1" = some m.cls := findClass_of_methodNamed Bd.named
  have hnm := (name_of_methodNamed Bd.named Bd.method).1
  have X0 : Stand p l e ({ frames := 0, cells := 1, slots := 1, locals := 0 } : Room) s m #[(.int ch)] below meth c s₁ [] 0 0 := Stand.of_body Bd
  have e0 : s₁.heap = h0 := by rw [← hh, Bd.state]; rfl
  have N0 := Fr.nil n0
  have pre0 : ∀ t, Steps p.tables e below (s₁.setTop (mkF m 0 #[.val (.int ch)] [])) t → Steps p.tables e below (s₁.setTop (entryFrame m #[(.int ch)] 1)) t := fun t k => castTop (ef_tob m ch) k
  have K0 := Keep.refl h0 []
  obtain ⟨T1, h1, kA1, X1, e1, E1, A1, st1⟩ := newP X0 hx hZ (hw _ (List.mem_of_getElem? (i := 46) rfl)) e0 (g := (mkF m 1 #[.val (.int ch)] [(.int (1 : Int32))])) rfl (hb hby d20_1) rfl (by decide : ¬ ((1 : Int32) < (0 : Int32))) (cap := 1) (by decide : (1 : Int32).toNatClampNeg ≤ 1) (by decide) (by decide) (by decide)
  obtain ⟨ad1, g1⟩ : ∃ z, z = (h0).size := ⟨_, rfl⟩
  rw [← g1] at A1 st1
  have V1 : Arv Z h1 ad1 kA1 .byte (1 : Int32) [(.int (0 : Int32))] (.int (0 : Int32)) := (Arv.new A1 (by decide : ¬ ((1 : Int32) < (0 : Int32)))).pad (pad_rep [] (.int (0 : Int32)) 1)
  have Z1 : n0 ≤ h1.size := Nat.le_trans Z0 E1.1
  have gn1 : n0 ≤ ad1 := Nat.le_trans Z0 (Nat.le_of_eq g1.symm)
  have f01 : h0.size ≤ ad1 := Nat.le_trans K0.1 (Nat.le_of_eq g1.symm)
  have K1 := K0.ext E1
  obtain ⟨c2, A2, q2, S2, M2, H2, U2⟩ := id V1
  obtain ⟨T2, h2, X2, e2, W2, st2⟩ := stB X1 hx hZ e1 A2 (j := (0 : Int32)) (inb_of S2 ⟨(by decide : ¬ ((0 : Int32) < (0 : Int32))), (by decide : (0 : Int32) < (1 : Int32))⟩) (g := (mkF m 7 #[.val (.int ch)] [(.int ((Int32.toInt8 ch).toInt32)), (.int (0 : Int32)), (.ref ad1), (.ref ad1)])) rfl rfl (hb hby d20_7)
  have Nn2 := Fr.snoc X2 N0 gn1
  have V2 : Arv Z h2 ad1 kA1 .byte (1 : Int32) [(.int (nar .byte ((Int32.toInt8 ch).toInt32)))] (.int (0 : Int32)) := (Arv.set A2 q2 S2 M2 H2 U2 (fits_nar_byte _) W2 0 rfl (Nat.le_of_ble_eq_true rfl))
  have K2 := K1.wr W2 (Or.inr f01)
  have Z2 : n0 ≤ h2.size := Nat.le_trans Z1 (Keep.of_wr W2).1
  obtain ⟨fs, hr, hrun, hended, hW, hsame⟩ := X2.leave (v := some (.ref ad1)) (fun h => by rw [Bd.returns] at h; cases h)
  refine ⟨_, _, pre0 _ ?_, hrun, hended, _, _, rfl, ?_, ⟨_, rfl⟩, hW, hsame.mono (Nat.le_of_ble_eq_true rfl) (Nat.le_of_ble_eq_true rfl)⟩
  · show Steps p.tables e below (s₁.setTop (mkF m 0 #[.val (.int ch)] [])) _
    refine XS.iconst X0.here hx rfl (hb hby d20_0) ?_
    show Steps p.tables e below (s₁.setTop (mkF m 1 #[.val (.int ch)] [(.int (1 : Int32))])) _
    refine st1 _ ?_
    show Steps p.tables e below (T1.setTop (mkF m 3 #[.val (.int ch)] [(.ref ad1)])) _
    refine XS.dup X1.here hx rfl (hb hby d20_3) rfl rfl ?_
    show Steps p.tables e below (T1.setTop (mkF m 4 #[.val (.int ch)] [(.ref ad1), (.ref ad1)])) _
    refine XS.iconst X1.here hx rfl (hb hby d20_4) ?_
    show Steps p.tables e below (T1.setTop (mkF m 5 #[.val (.int ch)] [(.int (0 : Int32)), (.ref ad1), (.ref ad1)])) _
    refine XS.iloadN X1.here hx rfl (hb hby d20_5) rfl ?_
    show Steps p.tables e below (T1.setTop (mkF m 6 #[.val (.int ch)] [(.int ch), (.int (0 : Int32)), (.ref ad1), (.ref ad1)])) _
    refine XT.i2b X1.here hx rfl (hb hby d20_6) rfl ?_
    show Steps p.tables e below (T1.setTop (mkF m 7 #[.val (.int ch)] [(.int ((Int32.toInt8 ch).toInt32)), (.int (0 : Int32)), (.ref ad1), (.ref ad1)])) _
    refine st2 _ ?_
    show Steps p.tables e below (T2.setTop (mkF m 8 #[.val (.int ch)] [(.ref ad1)])) _
    exact retOut X2 hx Bd.returns rfl (Or.inr (Or.inr (Or.inr (Or.inr ⟨rfl, rfl, rfl⟩)))) (hb hby d20_8) hr
  · show Q_tob Z ch  h0 n0 _ T2.heap _
    rw [e2]
    exact ⟨ad1, kA1, rfl, Nn2, K2, f01, V2⟩
theorem ef_sin (m : MethodId) (x : Addr) (tb : Addr) : entryFrame m #[(.ref x), (.ref tb), (.int (0 : Int32))] 3 = (mkF m 0 #[.val (.ref x), .val (.ref tb), .val (.int (0 : Int32))] []) := by first | (simp [entryFrame, mkF, argsToLocals, Value.category]; done) | rfl
def Q_sin (Z : State) (x : Addr) (tb : Addr)  (h0 : Heap) (n0 : Nat) (v : Option Value) (h : Heap) (L : List Loc) : Prop := v = none ∧ Fr n0 L ∧ Keep h0 h [x] ∧ (Exa Z h x "java/lang/String") ∧ (Fld Z h x "java/lang/String" "value" "[B" (.ref tb)) ∧ (Fld Z h x "java/lang/String" "coder" "B" (.int (0 : Int32)))
set_option maxRecDepth 65536 in
set_option maxHeartbeats 40000000 in
theorem rm_sin (l : Launch) (Z : State) (a0 : Array Value) (hw : ∀ d ∈ tables_1, d.before a0 Z = true) (ws : List Jvm.Cond) (x : Addr) (tb : Addr)  (h0 : Heap) (n0 : Nat) (Z0 : n0 ≤ h0.size) (k0_ : Exa Z h0 x "java/lang/String") (k1_ : Fld Z h0 x "java/lang/String" "value" "[B" .null) (k2_ : Fld Z h0 x "java/lang/String" "coder" "B" (.int (0 : Int32))) (k3_ : n0 ≤ x)   :
    MetFree l (⟨"java/lang/String", "<init>", "([BB)V"⟩ : MethodName) (head1 (Jvm.Cond.code (⟨"java/lang/String", "<init>", "([BB)V"⟩ : MethodName) jdk_42_method_151_code 3 none :: ws) ({ frames := 1, cells := 0, slots := 0, locals := 12 } : Room)) (fun a U => a = #[(.ref x), (.ref tb), (.int (0 : Int32))] ∧ Z.Warmed39 U.vm ∧ U.heap = h0) (fun _ _ _ _ _ => True) (fun _ U o U' => ∃ v L, o = .returned v ∧ Q_sin Z x tb  h0 n0 v U'.heap L ∧ FrameEnd U o U' L ({ frames := 1, cells := 0, slots := 0, locals := 12 } : Room).cells ({ frames := 1, cells := 0, slots := 0, locals := 12 } : Room).slots) := by
  refine MetFree.of_bodySF (plainFor_of_name pn_3) hisR ?_
  intro p e s m args below meth c s₁ Bd hml0 hP hK
  obtain ⟨rfl, hZ, hh⟩ := hP
  have hx := Bd.exec
  have hby := Bd.bytes
  have hml : c.maxLocals = 3 := hml0
  have hown : s.vm.findClass "java/lang/String" = some m.cls := findClass_of_methodNamed Bd.named
  have hnm := (name_of_methodNamed Bd.named Bd.method).1
  have X0 : Stand p l e ({ frames := 1, cells := 0, slots := 0, locals := 12 } : Room) s m #[(.ref x), (.ref tb), (.int (0 : Int32))] below meth c s₁ [] 0 0 := Stand.of_body Bd
  have e0 : s₁.heap = h0 := by rw [← hh, Bd.state]; rfl
  have N0 := Fr.nil n0
  have pre0 : ∀ t, Steps p.tables e below (s₁.setTop (mkF m 0 #[.val (.ref x), .val (.ref tb), .val (.int (0 : Int32))] [])) t → Steps p.tables e below (s₁.setTop (entryFrame m #[(.ref x), (.ref tb), (.int (0 : Int32))] 3)) t := fun t k => castTop (ef_sin m x tb) k
  have K0 := Keep.refl h0 [x]
  obtain ⟨T1, X1, e1, st1⟩ := initO X0 hx hZ hown (hw _ (List.mem_of_getElem? (i := 38) rfl)) (hw _ (List.mem_of_getElem? (i := 39) rfl)) (hw _ (List.mem_of_getElem? (i := 40) rfl)) e0 (g := (mkF m 1 #[.val (.ref x), .val (.ref tb), .val (.int (0 : Int32))] [(.ref x)])) rfl (by rw [hml]; rfl) rfl (hb hby d21_1) (by decide) (W := 0) (by show 2 * 0 + _ ≤ _; exact Nat.le_of_eq rfl) (by decide)
  obtain ⟨T2, h2, X2, e2, W2, st2⟩ := putF X1 hx hZ hown (host := "") (Or.inl (hw _ (List.mem_of_getElem? (i := 55) rfl))) Via.refl e1 k1_ k0_ (Or.inr ⟨(hw _ (List.mem_of_getElem? (i := 56) rfl)), rfl, hnm⟩) (hw _ (List.mem_of_getElem? (i := 29) rfl)) (ty := (.array .byte)) (by decide) rfl rfl (g := (mkF m 6 #[.val (.ref x), .val (.ref tb), .val (.int (0 : Int32))] [(.ref tb), (.ref x)])) rfl rfl (hb hby d21_6)
  have Nn2 := Fr.snoc X2 N0 k3_
  have q3 : Exa Z h2 x "java/lang/String" := (k0_.wr W2)
  have q4 : Fld Z h2 x "java/lang/String" "coder" "B" (.int (0 : Int32)) := (k2_.other W2 (Or.inr (slot_ne (a0 := a0) (C := "java/lang/String") (Or.inr (hw _ (List.mem_of_getElem? (i := 54) rfl))) (Or.inr (hw _ (List.mem_of_getElem? (i := 56) rfl))) (by decide) (t := .byte) (t' := (.array .byte)) (by decide) (by decide))))
  have q2n : Fld Z h2 x "java/lang/String" "value" "[B" (.ref tb) := (k1_.same W2)
  have K2 := K0.wr W2 (Or.inl (List.mem_of_getElem? (i := 0) rfl))
  have Z2 : n0 ≤ h2.size := Nat.le_trans Z0 (Keep.of_wr W2).1
  obtain ⟨T5, h5, X5, e5, W5, st5⟩ := putF X2 hx hZ hown (host := "") (Or.inl (hw _ (List.mem_of_getElem? (i := 53) rfl))) Via.refl e2 q4 q3 (Or.inr ⟨(hw _ (List.mem_of_getElem? (i := 54) rfl)), rfl, hnm⟩) (hw _ (List.mem_of_getElem? (i := 29) rfl)) (ty := .byte) (by decide) rfl rfl (g := (mkF m 11 #[.val (.ref x), .val (.ref tb), .val (.int (0 : Int32))] [(.int (0 : Int32)), (.ref x)])) rfl rfl (hb hby d21_11)
  have Nn5 := Fr.snoc X5 Nn2 k3_
  have q6 : Exa Z h5 x "java/lang/String" := (q3.wr W5)
  have q7 : Fld Z h5 x "java/lang/String" "value" "[B" (.ref tb) := (q2n.other W5 (Or.inr (slot_ne (a0 := a0) (C := "java/lang/String") (Or.inr (hw _ (List.mem_of_getElem? (i := 56) rfl))) (Or.inr (hw _ (List.mem_of_getElem? (i := 54) rfl))) (by decide) (t := (.array .byte)) (t' := .byte) (by decide) (by decide))))
  have q5n : Fld Z h5 x "java/lang/String" "coder" "B" (.int (0 : Int32)) := (q4.same W5)
  have K5 := K2.wr W5 (Or.inl (List.mem_of_getElem? (i := 0) rfl))
  have Z5 : n0 ≤ h5.size := Nat.le_trans Z2 (Keep.of_wr W5).1
  obtain ⟨fs, hr, hrun, hended, hW, hsame⟩ := X5.leave (v := none) (fun _ => rfl)
  refine ⟨_, _, pre0 _ ?_, hrun, hended, _, _, rfl, ?_, ⟨_, rfl⟩, hW, hsame.mono (Nat.le_of_ble_eq_true rfl) (Nat.le_of_ble_eq_true rfl)⟩
  · show Steps p.tables e below (s₁.setTop (mkF m 0 #[.val (.ref x), .val (.ref tb), .val (.int (0 : Int32))] [])) _
    refine XS.aloadN X0.here hx rfl (hb hby d21_0) rfl rfl ?_
    show Steps p.tables e below (s₁.setTop (mkF m 1 #[.val (.ref x), .val (.ref tb), .val (.int (0 : Int32))] [(.ref x)])) _
    refine st1 _ ?_
    show Steps p.tables e below (T1.setTop (mkF m 4 #[.val (.ref x), .val (.ref tb), .val (.int (0 : Int32))] [])) _
    refine XS.aloadN X1.here hx rfl (hb hby d21_4) rfl rfl ?_
    show Steps p.tables e below (T1.setTop (mkF m 5 #[.val (.ref x), .val (.ref tb), .val (.int (0 : Int32))] [(.ref x)])) _
    refine XS.aloadN X1.here hx rfl (hb hby d21_5) rfl rfl ?_
    show Steps p.tables e below (T1.setTop (mkF m 6 #[.val (.ref x), .val (.ref tb), .val (.int (0 : Int32))] [(.ref tb), (.ref x)])) _
    refine st2 _ ?_
    show Steps p.tables e below (T2.setTop (mkF m 9 #[.val (.ref x), .val (.ref tb), .val (.int (0 : Int32))] [])) _
    refine XS.aloadN X2.here hx rfl (hb hby d21_9) rfl rfl ?_
    show Steps p.tables e below (T2.setTop (mkF m 10 #[.val (.ref x), .val (.ref tb), .val (.int (0 : Int32))] [(.ref x)])) _
    refine XS.iloadN X2.here hx rfl (hb hby d21_10) rfl ?_
    show Steps p.tables e below (T2.setTop (mkF m 11 #[.val (.ref x), .val (.ref tb), .val (.int (0 : Int32))] [(.int (0 : Int32)), (.ref x)])) _
    refine st5 _ ?_
    show Steps p.tables e below (T5.setTop (mkF m 14 #[.val (.ref x), .val (.ref tb), .val (.int (0 : Int32))] [])) _
    exact X5.returnOut hx Bd.returns (hb hby d21_14) hr
  · show Q_sin Z x tb  h0 n0 _ T5.heap _
    rw [e5]
    exact ⟨rfl, Nn5, K5, q6, q7, q5n⟩
theorem ef_vof (m : MethodId) (ch : Int32) : entryFrame m #[(.int ch)] 1 = (mkF m 0 #[.val (.int ch)] []) := by first | (simp [entryFrame, mkF, argsToLocals, Value.category]; done) | rfl
def Q_vof (Z : State) (ch : Int32) (G1 : Int32) (h0 : Heap) (n0 : Nat) (v : Option Value) (h : Heap) (L : List Loc) : Prop := ∃ (ad : Addr) (tx : Addr) (kx : ClassId), v = some (.ref ad) ∧ Fr n0 L ∧ Keep h0 h [] ∧ h0.size ≤ ad ∧ (Exa Z h ad "java/lang/String") ∧ (Fld Z h ad "java/lang/String" "value" "[B" (.ref tx)) ∧ (Fld Z h ad "java/lang/String" "coder" "B" (.int (0 : Int32))) ∧ (Arv Z h tx kx .byte (1 : Int32) [(.int (nar .byte ((Int32.toInt8 ch).toInt32)))] (.int (0 : Int32)))
set_option maxRecDepth 65536 in
set_option maxHeartbeats 40000000 in
theorem rm_vof (l : Launch) (Z : State) (a0 : Array Value) (hw : ∀ d ∈ tables_1, d.before a0 Z = true) (ws : List Jvm.Cond) (ch : Int32) (G1 : Int32) (h0 : Heap) (n0 : Nat) (Z0 : n0 ≤ h0.size)  (S : Sta Z h0 "java/lang/String" "COMPACT_STRINGS" "Z" (.int G1)) (hz : ¬ G1 = 0) (hc : if_icmp.holds .gt ch (255 : Int32) = false)  :
    MetFree l (⟨"java/lang/String", "valueOf", "(C)Ljava/lang/String;"⟩ : MethodName) (head1 (Jvm.Cond.code (⟨"java/lang/String", "valueOf", "(C)Ljava/lang/String;"⟩ : MethodName) jdk_42_method_139_code 1 (some (.object "java/lang/String")) :: ws) ({ frames := 2, cells := 2, slots := 5, locals := 27 } : Room)) (fun a U => a = #[(.int ch)] ∧ Z.Warmed39 U.vm ∧ U.heap = h0) (fun _ _ _ _ _ => True) (fun _ U o U' => ∃ v L, o = .returned v ∧ Q_vof Z ch G1 h0 n0 v U'.heap L ∧ FrameEnd U o U' L ({ frames := 2, cells := 2, slots := 5, locals := 27 } : Room).cells ({ frames := 2, cells := 2, slots := 5, locals := 27 } : Room).slots) := by
  refine MetFree.of_bodySF (plainFor_of_name pn_3) hisR ?_
  intro p e s m args below meth c s₁ Bd hml0 hP hK
  obtain ⟨rfl, hZ, hh⟩ := hP
  have hx := Bd.exec
  have hby := Bd.bytes
  have hml : c.maxLocals = 1 := hml0
  have hown : s.vm.findClass "java/lang/String" = some m.cls := findClass_of_methodNamed Bd.named
  have hnm := (name_of_methodNamed Bd.named Bd.method).1
  have X0 : Stand p l e ({ frames := 2, cells := 2, slots := 5, locals := 27 } : Room) s m #[(.int ch)] below meth c s₁ [] 0 0 := Stand.of_body Bd
  have e0 : s₁.heap = h0 := by rw [← hh, Bd.state]; rfl
  have N0 := Fr.nil n0
  have pre0 : ∀ t, Steps p.tables e below (s₁.setTop (mkF m 0 #[.val (.int ch)] [])) t → Steps p.tables e below (s₁.setTop (entryFrame m #[(.int ch)] 1)) t := fun t k => castTop (ef_vof m ch) k
  have K0 := Keep.refl h0 []
  obtain ⟨T1, X1, e1, st1⟩ := getS X0 hx hZ (host := "") hown (hw _ (List.mem_of_getElem? (i := 41) rfl)) Via.refl e0 S (g := (mkF m 0 #[.val (.int ch)] [])) rfl (hb hby d18_0)
  obtain ⟨_, _, ⟨T2, L2, k2, n2⟩, -, X2, ⟨Lc2, hQ2, l2, y2, z2⟩, st2⟩ := Jvm.LawKit.callS X1 hx (y := (⟨"java/lang/StringLatin1", "canEncode", "(C)Z"⟩ : MethodName)) hown (mvT hZ (hw _ (List.mem_of_getElem? (i := 105) rfl))) (mvT hZ (hw _ (List.mem_of_getElem? (i := 106) rfl))) (mvT hZ (hw _ (List.mem_of_getElem? (i := 86) rfl))) (mvT hZ (hw _ (List.mem_of_getElem? (i := 107) rfl))) (by decide) (backOf (W := 0) (rm_can l Z a0 hw [] ch  (h0) n0 Z0  hc) hZ (hw _ (List.mem_of_getElem? (i := 107) rfl)) (hw _ (List.mem_of_getElem? (i := 86) rfl)) (by decide) (by decide)) (g := (mkF m 7 #[.val (.int ch)] [(.int ch)])) rfl (by rw [hml]; rfl) (argsL := [(.int ch)]) (rest := []) (lenOf pd_2 rfl) rfl (by show 2 * 0 + _ ≤ _; exact Nat.le_of_eq rfl) (hb hby d18_7) (fun _ _ => ⟨rfl, e1, (by decide : 0 + 0 ≤ _), (by decide : 0 + 0 ≤ _)⟩)
  dsimp only [Pt.U, Pt.locs, Pt.cells, Pt.slots] at X2 l2 y2 z2 st2 hQ2
  rw [l2, y2, z2] at X2
  replace X2 : Stand _ _ _ _ _ _ _ _ _ _ _ _ 0 0 := X2
  obtain ⟨vq2, N2, e2⟩ := hQ2
  rw [vq2] at st2
  have Nn2 := Fr.app N0 N2
  obtain ⟨T3, h3, X3, e3, E3, A3, D3, -, st3⟩ := newO X2 hx hZ hown (hw _ (List.mem_of_getElem? (i := 108) rfl)) (hw _ (List.mem_of_getElem? (i := 29) rfl)) (hw _ (List.mem_of_getElem? (i := 30) rfl)) e2 (g := (mkF m 13 #[.val (.int ch)] [])) rfl (hb hby d18_13) (by decide) (by decide)
  obtain ⟨ad3, g3⟩ : ∃ z, z = (h0).size := ⟨_, rfl⟩
  rw [← g3] at A3 D3 st3
  have F3_0 : Fld Z h3 ad3 "java/lang/String" "coder" "B" (.int (0 : Int32)) := (D3 (Or.inr (hw _ (List.mem_of_getElem? (i := 54) rfl))) (ty := .byte) (by decide))
  have F3_1 : Fld Z h3 ad3 "java/lang/String" "value" "[B" .null := (D3 (Or.inr (hw _ (List.mem_of_getElem? (i := 56) rfl))) (ty := (.array .byte)) (by decide))
  have Z3 : n0 ≤ h3.size := Nat.le_trans Z0 E3.1
  have gn3 : n0 ≤ ad3 := Nat.le_trans Z0 (Nat.le_of_eq g3.symm)
  have f03 : h0.size ≤ ad3 := Nat.le_trans K0.1 (Nat.le_of_eq g3.symm)
  have K3 := K0.ext E3
  obtain ⟨_, _, ⟨T4, L4, k4, n4⟩, -, X4, ⟨Lc4, hQ4, l4, y4, z4⟩, st4⟩ := Jvm.LawKit.callS X3 hx (y := (⟨"java/lang/StringLatin1", "toBytes", "(C)[B"⟩ : MethodName)) hown (mvT hZ (hw _ (List.mem_of_getElem? (i := 109) rfl))) (mvT hZ (hw _ (List.mem_of_getElem? (i := 110) rfl))) (mvT hZ (hw _ (List.mem_of_getElem? (i := 86) rfl))) (mvT hZ (hw _ (List.mem_of_getElem? (i := 111) rfl))) (by decide) (backOf (W := 2) (rm_tob l Z a0 hw [] ch  (h3) n0 Z3  ) hZ (hw _ (List.mem_of_getElem? (i := 111) rfl)) (hw _ (List.mem_of_getElem? (i := 86) rfl)) (by decide) (by decide)) (g := (mkF m 18 #[.val (.int ch)] [(.int ch), (.ref ad3), (.ref ad3)])) rfl (by rw [hml]; rfl) (argsL := [(.int ch)]) (rest := [(.ref ad3), (.ref ad3)]) (lenOf pd_3 rfl) rfl (by show 2 * 0 + _ ≤ _; exact Nat.le_of_eq rfl) (hb hby d18_18) (fun _ _ => ⟨rfl, e3, (by decide : 1 + 1 ≤ _), (by decide : 4 + 1 ≤ _)⟩)
  dsimp only [Pt.U, Pt.locs, Pt.cells, Pt.slots] at X4 l4 y4 z4 st4 hQ4
  rw [l4, y4, z4] at X4
  replace X4 : Stand _ _ _ _ _ _ _ _ _ _ _ _ 2 5 := X4
  obtain ⟨ad4, x4_0, rfl, N4, K4, fr4, p4_0⟩ := hQ4
  have Nn4 := Fr.app Nn2 N4
  have q5 : Exa Z T4.heap ad3 "java/lang/String" := (A3.keep K4)
  have q6 : Fld Z T4.heap ad3 "java/lang/String" "coder" "B" (.int (0 : Int32)) := (F3_0.keep K4 (fun q => nomatch q))
  have q7 : Fld Z T4.heap ad3 "java/lang/String" "value" "[B" .null := (F3_1.keep K4 (fun q => nomatch q))
  have ne_ad3_ad4 : ad3 ≠ ad4 := Nat.ne_of_lt (Nat.lt_of_lt_of_le (A3.lt) fr4)
  have Z4 : n0 ≤ T4.heap.size := Nat.le_trans Z3 K4.1
  have gn4 : n0 ≤ ad4 := Nat.le_trans Z3 fr4
  have f04 : h0.size ≤ ad4 := Nat.le_trans K3.1 fr4
  have KK4 := K3.trans K4 (fun x hx => nomatch hx)
  obtain ⟨_, _, ⟨T8, L8, k8, n8⟩, -, X8, ⟨Lc8, hQ8, l8, y8, z8⟩, st8⟩ := X4.specialBack hx (y := (⟨"java/lang/String", "<init>", "([BB)V"⟩ : MethodName)) rfl hown (mvT hZ (hw _ (List.mem_of_getElem? (i := 112) rfl))) (mvT hZ (hw _ (List.mem_of_getElem? (i := 113) rfl))) (mvT hZ (hw _ (List.mem_of_getElem? (i := 114) rfl))) (by decide) (backOf (W := 1) (rm_sin l Z a0 hw [] ad3 ad4  (T4.heap) n0 Z4 q5 q7 q6 gn3 ) hZ (hw _ (List.mem_of_getElem? (i := 114) rfl)) (hw _ (List.mem_of_getElem? (i := 30) rfl)) (by decide) (by decide)) (g := (mkF m 22 #[.val (.int ch)] [(.int (0 : Int32)), (.ref ad4), (.ref ad3), (.ref ad3)])) rfl (by rw [hml]; rfl) (Steps.refl _) (a := ad3) (argsL := [(.ref ad4), (.int (0 : Int32))]) (rest := [(.ref ad3)]) (lenOf pd_4 rfl) rfl (by show 2 * 0 + _ ≤ _; exact Nat.le_of_eq rfl) (hb hby d18_22) (fun _ _ => ⟨rfl, rfl, (by decide : 2 + 0 ≤ _), (by decide : 5 + 0 ≤ _)⟩)
  dsimp only [Pt.U, Pt.locs, Pt.cells, Pt.slots] at X8 l8 y8 z8 st8 hQ8
  rw [l8, y8, z8] at X8
  replace X8 : Stand _ _ _ _ _ _ _ _ _ _ _ _ 2 5 := X8
  obtain ⟨rfl, N8, K8, p8_0, p8_1, p8_2⟩ := hQ8
  have Nn8 := Fr.app Nn4 N8
  have q9 : Arv Z T8.heap ad4 x4_0 .byte (1 : Int32) [(.int (nar .byte ((Int32.toInt8 ch).toInt32)))] (.int (0 : Int32)) := (p4_0.keep K8 (fun q => ne_ad3_ad4.symm (List.mem_singleton.mp q)))
  have Z8 : n0 ≤ T8.heap.size := Nat.le_trans Z4 K8.1
  have KK8 := KK4.trans K8 (fun x hx => Or.inr (by cases List.mem_singleton.mp hx; exact f03))
  obtain ⟨fs, hr, hrun, hended, hW, hsame⟩ := X8.leave (v := some (.ref ad3)) (fun h => by rw [Bd.returns] at h; cases h)
  refine ⟨_, _, pre0 _ ?_, hrun, hended, _, _, rfl, ?_, ⟨_, rfl⟩, hW, hsame.mono (Nat.le_of_ble_eq_true rfl) (Nat.le_of_ble_eq_true rfl)⟩
  · show Steps p.tables e below (s₁.setTop (mkF m 0 #[.val (.int ch)] [])) _
    refine st1 _ ?_
    show Steps p.tables e below (T1.setTop (mkF m 3 #[.val (.int ch)] [(.int G1)])) _
    refine XS.ifNo X1.here hx rfl (hb hby d18_3) rfl (own_z0 hz) ?_
    show Steps p.tables e below (T1.setTop (mkF m 6 #[.val (.int ch)] [])) _
    refine XS.iloadN X1.here hx rfl (hb hby d18_6) rfl ?_
    show Steps p.tables e below (T1.setTop (mkF m 7 #[.val (.int ch)] [(.int ch)])) _
    refine st2 _ ?_
    show Steps p.tables e below (T2.setTop (mkF m 10 #[.val (.int ch)] [(.int (1 : Int32))])) _
    refine XS.ifNo X2.here hx rfl (hb hby d18_10) rfl rfl ?_
    show Steps p.tables e below (T2.setTop (mkF m 13 #[.val (.int ch)] [])) _
    refine st3 _ ?_
    show Steps p.tables e below (T3.setTop (mkF m 16 #[.val (.int ch)] [(.ref ad3)])) _
    refine XS.dup X3.here hx rfl (hb hby d18_16) rfl rfl ?_
    show Steps p.tables e below (T3.setTop (mkF m 17 #[.val (.int ch)] [(.ref ad3), (.ref ad3)])) _
    refine XS.iloadN X3.here hx rfl (hb hby d18_17) rfl ?_
    show Steps p.tables e below (T3.setTop (mkF m 18 #[.val (.int ch)] [(.int ch), (.ref ad3), (.ref ad3)])) _
    refine st4 _ ?_
    show Steps p.tables e below (T4.setTop (mkF m 21 #[.val (.int ch)] [(.ref ad4), (.ref ad3), (.ref ad3)])) _
    refine XS.iconst X4.here hx rfl (hb hby d18_21) ?_
    show Steps p.tables e below (T4.setTop (mkF m 22 #[.val (.int ch)] [(.int (0 : Int32)), (.ref ad4), (.ref ad3), (.ref ad3)])) _
    refine st8.trans ?_
    show Steps p.tables e below (T8.setTop (mkF m 25 #[.val (.int ch)] [(.ref ad3)])) _
    exact retOut X8 hx Bd.returns rfl (Or.inr (Or.inr (Or.inr (Or.inr ⟨rfl, rfl, rfl⟩)))) (hb hby d18_25) hr
  · show Q_vof Z ch G1 h0 n0 _ T8.heap _
    show _
    exact ⟨ad3, ad4, x4_0, rfl, Nn8, KK8, f03, p8_0, p8_1, p8_2, q9⟩
set_option maxRecDepth 65536 in
set_option maxHeartbeats 40000000 in
theorem seg_A {p : Program} {l : Launch} {e : Env} {s : State} {m : MethodId} {args : Array Value} {below : List Frame} {meth : Method} {c : Code} {T0 : State} {locs : List Loc} {Z : State} {a0 : Array Value} {h0 : Heap} {n0 : Nat} (s0 s1 s2 s3 s4 s5 s6 s7 s8 s9 s10 : Slot) (hx : p.tables.exec = Jvm.exec) (hZ : Z.Warmed39 s.vm) (hw : ∀ d ∈ tables_1, d.before a0 Z = true) (hby : c.code = code) (hml : c.maxLocals = 25) (hown : s.vm.findClass "com/example/kontrakt/kontrakt/input/NumeralsCountPinLaw" = some m.cls)  (O0 : Old Z n0 h0)
    (X0 : Stand p l e room_1 s m args below meth c T0 locs 0 0) (e0 : T0.heap = h0) (N0 : Fr n0 locs) (Z0 : n0 ≤ h0.size) : ∃ (T' : State) (h' : Heap) (locs' : List Loc) (pw : Addr) (kp : ClassId), Stand p l e room_1 s m args below meth c T' locs' 1 19 ∧ T'.heap = h' ∧ Fr n0 locs' ∧ n0 ≤ h'.size ∧ Old Z n0 h' ∧ Arv Z h' pw kp .long (19 : Int32) own_pwv (.long (0 : Int64)) ∧ n0 ≤ pw ∧ ∀ target, Steps p.tables e below (T'.setTop (mkF m 278 #[s0, s1, s2, s3, s4, s5, s6, s7, s8, s9, s10, .val (.ref pw), .unset, .unset, .unset, .unset, .unset, .unset, .unset, .unset, .unset, .unset, .unset, .unset, .unset] [])) target → Steps p.tables e below (T0.setTop (mkF m 147 #[s0, s1, s2, s3, s4, s5, s6, s7, s8, s9, s10, .unset, .unset, .unset, .unset, .unset, .unset, .unset, .unset, .unset, .unset, .unset, .unset, .unset, .unset] [])) target := by
  obtain ⟨T1, h1, kA1, X1, e1, E1, A1, st1⟩ := newP X0 hx hZ (hw _ (List.mem_of_getElem? (i := 2) rfl)) e0 (g := (mkF m 149 #[s0, s1, s2, s3, s4, s5, s6, s7, s8, s9, s10, .unset, .unset, .unset, .unset, .unset, .unset, .unset, .unset, .unset, .unset, .unset, .unset, .unset, .unset] [(.int (19 : Int32))])) rfl (hb hby at_149) rfl (by decide : ¬ ((19 : Int32) < (0 : Int32))) (cap := 19) (by decide : (19 : Int32).toNatClampNeg ≤ 19) (by decide) (by decide) (by decide)
  obtain ⟨ad1, g1⟩ : ∃ z, z = (h0).size := ⟨_, rfl⟩
  rw [← g1] at A1 st1
  have q2 : Old Z n0 h1 := (O0.ext E1)
  have V1 : Arv Z h1 ad1 kA1 .long (19 : Int32) [(.long (0 : Int64)), (.long (0 : Int64)), (.long (0 : Int64)), (.long (0 : Int64)), (.long (0 : Int64)), (.long (0 : Int64)), (.long (0 : Int64)), (.long (0 : Int64)), (.long (0 : Int64)), (.long (0 : Int64)), (.long (0 : Int64)), (.long (0 : Int64)), (.long (0 : Int64)), (.long (0 : Int64)), (.long (0 : Int64)), (.long (0 : Int64)), (.long (0 : Int64)), (.long (0 : Int64)), (.long (0 : Int64))] (.long (0 : Int64)) := (Arv.new A1 (by decide : ¬ ((19 : Int32) < (0 : Int32)))).pad (pad_rep [] (.long (0 : Int64)) 19)
  have Z1 : n0 ≤ h1.size := Nat.le_trans Z0 E1.1
  have gn1 : n0 ≤ ad1 := Nat.le_trans Z0 (Nat.le_of_eq g1.symm)
  obtain ⟨c3, A3, q3, S3, M3, H3, U3⟩ := id V1
  obtain ⟨T3, h3, X3, e3, W3, st3⟩ := stJ X1 hx hZ e1 A3 (j := (0 : Int32)) (inb_of S3 ⟨(by decide : ¬ ((0 : Int32) < (0 : Int32))), (by decide : (0 : Int32) < (19 : Int32))⟩) (g := (mkF m 154 #[s0, s1, s2, s3, s4, s5, s6, s7, s8, s9, s10, .unset, .unset, .unset, .unset, .unset, .unset, .unset, .unset, .unset, .unset, .unset, .unset, .unset, .unset] [(.long (1 : Int64)), (.int (0 : Int32)), (.ref ad1), (.ref ad1)])) rfl rfl (hb hby at_154)
  have Nn3 := Fr.snoc X3 N0 gn1
  have q4 : Old Z n0 h3 := (q2.wr W3 gn1)
  have V3 : Arv Z h3 ad1 kA1 .long (19 : Int32) [(.long (1 : Int64)), (.long (0 : Int64)), (.long (0 : Int64)), (.long (0 : Int64)), (.long (0 : Int64)), (.long (0 : Int64)), (.long (0 : Int64)), (.long (0 : Int64)), (.long (0 : Int64)), (.long (0 : Int64)), (.long (0 : Int64)), (.long (0 : Int64)), (.long (0 : Int64)), (.long (0 : Int64)), (.long (0 : Int64)), (.long (0 : Int64)), (.long (0 : Int64)), (.long (0 : Int64)), (.long (0 : Int64))] (.long (0 : Int64)) := (Arv.set A3 q3 S3 M3 H3 U3 rfl W3 0 rfl (Nat.le_of_ble_eq_true rfl))
  have Z3 : n0 ≤ h3.size := Nat.le_trans Z1 (Keep.of_wr W3).1
  obtain ⟨c5, A5, q5, S5, M5, H5, U5⟩ := id V3
  obtain ⟨T5, h5, X5, e5, W5, st5⟩ := stJ X3 hx hZ e3 A5 (j := (1 : Int32)) (inb_of S5 ⟨(by decide : ¬ ((1 : Int32) < (0 : Int32))), (by decide : (1 : Int32) < (19 : Int32))⟩) (g := (mkF m 160 #[s0, s1, s2, s3, s4, s5, s6, s7, s8, s9, s10, .unset, .unset, .unset, .unset, .unset, .unset, .unset, .unset, .unset, .unset, .unset, .unset, .unset, .unset] [(.long (10 : Int64)), (.int (1 : Int32)), (.ref ad1), (.ref ad1)])) rfl rfl (hb hby at_160)
  have Nn5 := Fr.snoc X5 Nn3 gn1
  have q6 : Old Z n0 h5 := (q4.wr W5 gn1)
  have V5 : Arv Z h5 ad1 kA1 .long (19 : Int32) [(.long (1 : Int64)), (.long (10 : Int64)), (.long (0 : Int64)), (.long (0 : Int64)), (.long (0 : Int64)), (.long (0 : Int64)), (.long (0 : Int64)), (.long (0 : Int64)), (.long (0 : Int64)), (.long (0 : Int64)), (.long (0 : Int64)), (.long (0 : Int64)), (.long (0 : Int64)), (.long (0 : Int64)), (.long (0 : Int64)), (.long (0 : Int64)), (.long (0 : Int64)), (.long (0 : Int64)), (.long (0 : Int64))] (.long (0 : Int64)) := (Arv.set A5 q5 S5 M5 H5 U5 rfl W5 1 rfl (Nat.le_of_ble_eq_true rfl))
  have Z5 : n0 ≤ h5.size := Nat.le_trans Z3 (Keep.of_wr W5).1
  obtain ⟨c7, A7, q7, S7, M7, H7, U7⟩ := id V5
  obtain ⟨T7, h7, X7, e7, W7, st7⟩ := stJ X5 hx hZ e5 A7 (j := (2 : Int32)) (inb_of S7 ⟨(by decide : ¬ ((2 : Int32) < (0 : Int32))), (by decide : (2 : Int32) < (19 : Int32))⟩) (g := (mkF m 166 #[s0, s1, s2, s3, s4, s5, s6, s7, s8, s9, s10, .unset, .unset, .unset, .unset, .unset, .unset, .unset, .unset, .unset, .unset, .unset, .unset, .unset, .unset] [(.long (100 : Int64)), (.int (2 : Int32)), (.ref ad1), (.ref ad1)])) rfl rfl (hb hby at_166)
  have Nn7 := Fr.snoc X7 Nn5 gn1
  have q8 : Old Z n0 h7 := (q6.wr W7 gn1)
  have V7 : Arv Z h7 ad1 kA1 .long (19 : Int32) [(.long (1 : Int64)), (.long (10 : Int64)), (.long (100 : Int64)), (.long (0 : Int64)), (.long (0 : Int64)), (.long (0 : Int64)), (.long (0 : Int64)), (.long (0 : Int64)), (.long (0 : Int64)), (.long (0 : Int64)), (.long (0 : Int64)), (.long (0 : Int64)), (.long (0 : Int64)), (.long (0 : Int64)), (.long (0 : Int64)), (.long (0 : Int64)), (.long (0 : Int64)), (.long (0 : Int64)), (.long (0 : Int64))] (.long (0 : Int64)) := (Arv.set A7 q7 S7 M7 H7 U7 rfl W7 2 rfl (Nat.le_of_ble_eq_true rfl))
  have Z7 : n0 ≤ h7.size := Nat.le_trans Z5 (Keep.of_wr W7).1
  obtain ⟨c9, A9, q9, S9, M9, H9, U9⟩ := id V7
  obtain ⟨T9, h9, X9, e9, W9, st9⟩ := stJ X7 hx hZ e7 A9 (j := (3 : Int32)) (inb_of S9 ⟨(by decide : ¬ ((3 : Int32) < (0 : Int32))), (by decide : (3 : Int32) < (19 : Int32))⟩) (g := (mkF m 172 #[s0, s1, s2, s3, s4, s5, s6, s7, s8, s9, s10, .unset, .unset, .unset, .unset, .unset, .unset, .unset, .unset, .unset, .unset, .unset, .unset, .unset, .unset] [(.long (1000 : Int64)), (.int (3 : Int32)), (.ref ad1), (.ref ad1)])) rfl rfl (hb hby at_172)
  have Nn9 := Fr.snoc X9 Nn7 gn1
  have q10 : Old Z n0 h9 := (q8.wr W9 gn1)
  have V9 : Arv Z h9 ad1 kA1 .long (19 : Int32) [(.long (1 : Int64)), (.long (10 : Int64)), (.long (100 : Int64)), (.long (1000 : Int64)), (.long (0 : Int64)), (.long (0 : Int64)), (.long (0 : Int64)), (.long (0 : Int64)), (.long (0 : Int64)), (.long (0 : Int64)), (.long (0 : Int64)), (.long (0 : Int64)), (.long (0 : Int64)), (.long (0 : Int64)), (.long (0 : Int64)), (.long (0 : Int64)), (.long (0 : Int64)), (.long (0 : Int64)), (.long (0 : Int64))] (.long (0 : Int64)) := (Arv.set A9 q9 S9 M9 H9 U9 rfl W9 3 rfl (Nat.le_of_ble_eq_true rfl))
  have Z9 : n0 ≤ h9.size := Nat.le_trans Z7 (Keep.of_wr W9).1
  obtain ⟨c11, A11, q11, S11, M11, H11, U11⟩ := id V9
  obtain ⟨T11, h11, X11, e11, W11, st11⟩ := stJ X9 hx hZ e9 A11 (j := (4 : Int32)) (inb_of S11 ⟨(by decide : ¬ ((4 : Int32) < (0 : Int32))), (by decide : (4 : Int32) < (19 : Int32))⟩) (g := (mkF m 178 #[s0, s1, s2, s3, s4, s5, s6, s7, s8, s9, s10, .unset, .unset, .unset, .unset, .unset, .unset, .unset, .unset, .unset, .unset, .unset, .unset, .unset, .unset] [(.long (10000 : Int64)), (.int (4 : Int32)), (.ref ad1), (.ref ad1)])) rfl rfl (hb hby at_178)
  have Nn11 := Fr.snoc X11 Nn9 gn1
  have q12 : Old Z n0 h11 := (q10.wr W11 gn1)
  have V11 : Arv Z h11 ad1 kA1 .long (19 : Int32) [(.long (1 : Int64)), (.long (10 : Int64)), (.long (100 : Int64)), (.long (1000 : Int64)), (.long (10000 : Int64)), (.long (0 : Int64)), (.long (0 : Int64)), (.long (0 : Int64)), (.long (0 : Int64)), (.long (0 : Int64)), (.long (0 : Int64)), (.long (0 : Int64)), (.long (0 : Int64)), (.long (0 : Int64)), (.long (0 : Int64)), (.long (0 : Int64)), (.long (0 : Int64)), (.long (0 : Int64)), (.long (0 : Int64))] (.long (0 : Int64)) := (Arv.set A11 q11 S11 M11 H11 U11 rfl W11 4 rfl (Nat.le_of_ble_eq_true rfl))
  have Z11 : n0 ≤ h11.size := Nat.le_trans Z9 (Keep.of_wr W11).1
  obtain ⟨c13, A13, q13, S13, M13, H13, U13⟩ := id V11
  obtain ⟨T13, h13, X13, e13, W13, st13⟩ := stJ X11 hx hZ e11 A13 (j := (5 : Int32)) (inb_of S13 ⟨(by decide : ¬ ((5 : Int32) < (0 : Int32))), (by decide : (5 : Int32) < (19 : Int32))⟩) (g := (mkF m 184 #[s0, s1, s2, s3, s4, s5, s6, s7, s8, s9, s10, .unset, .unset, .unset, .unset, .unset, .unset, .unset, .unset, .unset, .unset, .unset, .unset, .unset, .unset] [(.long (100000 : Int64)), (.int (5 : Int32)), (.ref ad1), (.ref ad1)])) rfl rfl (hb hby at_184)
  have Nn13 := Fr.snoc X13 Nn11 gn1
  have q14 : Old Z n0 h13 := (q12.wr W13 gn1)
  have V13 : Arv Z h13 ad1 kA1 .long (19 : Int32) [(.long (1 : Int64)), (.long (10 : Int64)), (.long (100 : Int64)), (.long (1000 : Int64)), (.long (10000 : Int64)), (.long (100000 : Int64)), (.long (0 : Int64)), (.long (0 : Int64)), (.long (0 : Int64)), (.long (0 : Int64)), (.long (0 : Int64)), (.long (0 : Int64)), (.long (0 : Int64)), (.long (0 : Int64)), (.long (0 : Int64)), (.long (0 : Int64)), (.long (0 : Int64)), (.long (0 : Int64)), (.long (0 : Int64))] (.long (0 : Int64)) := (Arv.set A13 q13 S13 M13 H13 U13 rfl W13 5 rfl (Nat.le_of_ble_eq_true rfl))
  have Z13 : n0 ≤ h13.size := Nat.le_trans Z11 (Keep.of_wr W13).1
  obtain ⟨c15, A15, q15, S15, M15, H15, U15⟩ := id V13
  obtain ⟨T15, h15, X15, e15, W15, st15⟩ := stJ X13 hx hZ e13 A15 (j := (6 : Int32)) (inb_of S15 ⟨(by decide : ¬ ((6 : Int32) < (0 : Int32))), (by decide : (6 : Int32) < (19 : Int32))⟩) (g := (mkF m 191 #[s0, s1, s2, s3, s4, s5, s6, s7, s8, s9, s10, .unset, .unset, .unset, .unset, .unset, .unset, .unset, .unset, .unset, .unset, .unset, .unset, .unset, .unset] [(.long (1000000 : Int64)), (.int (6 : Int32)), (.ref ad1), (.ref ad1)])) rfl rfl (hb hby at_191)
  have Nn15 := Fr.snoc X15 Nn13 gn1
  have q16 : Old Z n0 h15 := (q14.wr W15 gn1)
  have V15 : Arv Z h15 ad1 kA1 .long (19 : Int32) [(.long (1 : Int64)), (.long (10 : Int64)), (.long (100 : Int64)), (.long (1000 : Int64)), (.long (10000 : Int64)), (.long (100000 : Int64)), (.long (1000000 : Int64)), (.long (0 : Int64)), (.long (0 : Int64)), (.long (0 : Int64)), (.long (0 : Int64)), (.long (0 : Int64)), (.long (0 : Int64)), (.long (0 : Int64)), (.long (0 : Int64)), (.long (0 : Int64)), (.long (0 : Int64)), (.long (0 : Int64)), (.long (0 : Int64))] (.long (0 : Int64)) := (Arv.set A15 q15 S15 M15 H15 U15 rfl W15 6 rfl (Nat.le_of_ble_eq_true rfl))
  have Z15 : n0 ≤ h15.size := Nat.le_trans Z13 (Keep.of_wr W15).1
  obtain ⟨c17, A17, q17, S17, M17, H17, U17⟩ := id V15
  obtain ⟨T17, h17, X17, e17, W17, st17⟩ := stJ X15 hx hZ e15 A17 (j := (7 : Int32)) (inb_of S17 ⟨(by decide : ¬ ((7 : Int32) < (0 : Int32))), (by decide : (7 : Int32) < (19 : Int32))⟩) (g := (mkF m 198 #[s0, s1, s2, s3, s4, s5, s6, s7, s8, s9, s10, .unset, .unset, .unset, .unset, .unset, .unset, .unset, .unset, .unset, .unset, .unset, .unset, .unset, .unset] [(.long (10000000 : Int64)), (.int (7 : Int32)), (.ref ad1), (.ref ad1)])) rfl rfl (hb hby at_198)
  have Nn17 := Fr.snoc X17 Nn15 gn1
  have q18 : Old Z n0 h17 := (q16.wr W17 gn1)
  have V17 : Arv Z h17 ad1 kA1 .long (19 : Int32) [(.long (1 : Int64)), (.long (10 : Int64)), (.long (100 : Int64)), (.long (1000 : Int64)), (.long (10000 : Int64)), (.long (100000 : Int64)), (.long (1000000 : Int64)), (.long (10000000 : Int64)), (.long (0 : Int64)), (.long (0 : Int64)), (.long (0 : Int64)), (.long (0 : Int64)), (.long (0 : Int64)), (.long (0 : Int64)), (.long (0 : Int64)), (.long (0 : Int64)), (.long (0 : Int64)), (.long (0 : Int64)), (.long (0 : Int64))] (.long (0 : Int64)) := (Arv.set A17 q17 S17 M17 H17 U17 rfl W17 7 rfl (Nat.le_of_ble_eq_true rfl))
  have Z17 : n0 ≤ h17.size := Nat.le_trans Z15 (Keep.of_wr W17).1
  obtain ⟨c19, A19, q19, S19, M19, H19, U19⟩ := id V17
  obtain ⟨T19, h19, X19, e19, W19, st19⟩ := stJ X17 hx hZ e17 A19 (j := (8 : Int32)) (inb_of S19 ⟨(by decide : ¬ ((8 : Int32) < (0 : Int32))), (by decide : (8 : Int32) < (19 : Int32))⟩) (g := (mkF m 205 #[s0, s1, s2, s3, s4, s5, s6, s7, s8, s9, s10, .unset, .unset, .unset, .unset, .unset, .unset, .unset, .unset, .unset, .unset, .unset, .unset, .unset, .unset] [(.long (100000000 : Int64)), (.int (8 : Int32)), (.ref ad1), (.ref ad1)])) rfl rfl (hb hby at_205)
  have Nn19 := Fr.snoc X19 Nn17 gn1
  have q20 : Old Z n0 h19 := (q18.wr W19 gn1)
  have V19 : Arv Z h19 ad1 kA1 .long (19 : Int32) [(.long (1 : Int64)), (.long (10 : Int64)), (.long (100 : Int64)), (.long (1000 : Int64)), (.long (10000 : Int64)), (.long (100000 : Int64)), (.long (1000000 : Int64)), (.long (10000000 : Int64)), (.long (100000000 : Int64)), (.long (0 : Int64)), (.long (0 : Int64)), (.long (0 : Int64)), (.long (0 : Int64)), (.long (0 : Int64)), (.long (0 : Int64)), (.long (0 : Int64)), (.long (0 : Int64)), (.long (0 : Int64)), (.long (0 : Int64))] (.long (0 : Int64)) := (Arv.set A19 q19 S19 M19 H19 U19 rfl W19 8 rfl (Nat.le_of_ble_eq_true rfl))
  have Z19 : n0 ≤ h19.size := Nat.le_trans Z17 (Keep.of_wr W19).1
  obtain ⟨c21, A21, q21, S21, M21, H21, U21⟩ := id V19
  obtain ⟨T21, h21, X21, e21, W21, st21⟩ := stJ X19 hx hZ e19 A21 (j := (9 : Int32)) (inb_of S21 ⟨(by decide : ¬ ((9 : Int32) < (0 : Int32))), (by decide : (9 : Int32) < (19 : Int32))⟩) (g := (mkF m 212 #[s0, s1, s2, s3, s4, s5, s6, s7, s8, s9, s10, .unset, .unset, .unset, .unset, .unset, .unset, .unset, .unset, .unset, .unset, .unset, .unset, .unset, .unset] [(.long (1000000000 : Int64)), (.int (9 : Int32)), (.ref ad1), (.ref ad1)])) rfl rfl (hb hby at_212)
  have Nn21 := Fr.snoc X21 Nn19 gn1
  have q22 : Old Z n0 h21 := (q20.wr W21 gn1)
  have V21 : Arv Z h21 ad1 kA1 .long (19 : Int32) [(.long (1 : Int64)), (.long (10 : Int64)), (.long (100 : Int64)), (.long (1000 : Int64)), (.long (10000 : Int64)), (.long (100000 : Int64)), (.long (1000000 : Int64)), (.long (10000000 : Int64)), (.long (100000000 : Int64)), (.long (1000000000 : Int64)), (.long (0 : Int64)), (.long (0 : Int64)), (.long (0 : Int64)), (.long (0 : Int64)), (.long (0 : Int64)), (.long (0 : Int64)), (.long (0 : Int64)), (.long (0 : Int64)), (.long (0 : Int64))] (.long (0 : Int64)) := (Arv.set A21 q21 S21 M21 H21 U21 rfl W21 9 rfl (Nat.le_of_ble_eq_true rfl))
  have Z21 : n0 ≤ h21.size := Nat.le_trans Z19 (Keep.of_wr W21).1
  obtain ⟨c23, A23, q23, S23, M23, H23, U23⟩ := id V21
  obtain ⟨T23, h23, X23, e23, W23, st23⟩ := stJ X21 hx hZ e21 A23 (j := (10 : Int32)) (inb_of S23 ⟨(by decide : ¬ ((10 : Int32) < (0 : Int32))), (by decide : (10 : Int32) < (19 : Int32))⟩) (g := (mkF m 219 #[s0, s1, s2, s3, s4, s5, s6, s7, s8, s9, s10, .unset, .unset, .unset, .unset, .unset, .unset, .unset, .unset, .unset, .unset, .unset, .unset, .unset, .unset] [(.long (10000000000 : Int64)), (.int (10 : Int32)), (.ref ad1), (.ref ad1)])) rfl rfl (hb hby at_219)
  have Nn23 := Fr.snoc X23 Nn21 gn1
  have q24 : Old Z n0 h23 := (q22.wr W23 gn1)
  have V23 : Arv Z h23 ad1 kA1 .long (19 : Int32) [(.long (1 : Int64)), (.long (10 : Int64)), (.long (100 : Int64)), (.long (1000 : Int64)), (.long (10000 : Int64)), (.long (100000 : Int64)), (.long (1000000 : Int64)), (.long (10000000 : Int64)), (.long (100000000 : Int64)), (.long (1000000000 : Int64)), (.long (10000000000 : Int64)), (.long (0 : Int64)), (.long (0 : Int64)), (.long (0 : Int64)), (.long (0 : Int64)), (.long (0 : Int64)), (.long (0 : Int64)), (.long (0 : Int64)), (.long (0 : Int64))] (.long (0 : Int64)) := (Arv.set A23 q23 S23 M23 H23 U23 rfl W23 10 rfl (Nat.le_of_ble_eq_true rfl))
  have Z23 : n0 ≤ h23.size := Nat.le_trans Z21 (Keep.of_wr W23).1
  obtain ⟨c25, A25, q25, S25, M25, H25, U25⟩ := id V23
  obtain ⟨T25, h25, X25, e25, W25, st25⟩ := stJ X23 hx hZ e23 A25 (j := (11 : Int32)) (inb_of S25 ⟨(by decide : ¬ ((11 : Int32) < (0 : Int32))), (by decide : (11 : Int32) < (19 : Int32))⟩) (g := (mkF m 226 #[s0, s1, s2, s3, s4, s5, s6, s7, s8, s9, s10, .unset, .unset, .unset, .unset, .unset, .unset, .unset, .unset, .unset, .unset, .unset, .unset, .unset, .unset] [(.long (100000000000 : Int64)), (.int (11 : Int32)), (.ref ad1), (.ref ad1)])) rfl rfl (hb hby at_226)
  have Nn25 := Fr.snoc X25 Nn23 gn1
  have q26 : Old Z n0 h25 := (q24.wr W25 gn1)
  have V25 : Arv Z h25 ad1 kA1 .long (19 : Int32) [(.long (1 : Int64)), (.long (10 : Int64)), (.long (100 : Int64)), (.long (1000 : Int64)), (.long (10000 : Int64)), (.long (100000 : Int64)), (.long (1000000 : Int64)), (.long (10000000 : Int64)), (.long (100000000 : Int64)), (.long (1000000000 : Int64)), (.long (10000000000 : Int64)), (.long (100000000000 : Int64)), (.long (0 : Int64)), (.long (0 : Int64)), (.long (0 : Int64)), (.long (0 : Int64)), (.long (0 : Int64)), (.long (0 : Int64)), (.long (0 : Int64))] (.long (0 : Int64)) := (Arv.set A25 q25 S25 M25 H25 U25 rfl W25 11 rfl (Nat.le_of_ble_eq_true rfl))
  have Z25 : n0 ≤ h25.size := Nat.le_trans Z23 (Keep.of_wr W25).1
  obtain ⟨c27, A27, q27, S27, M27, H27, U27⟩ := id V25
  obtain ⟨T27, h27, X27, e27, W27, st27⟩ := stJ X25 hx hZ e25 A27 (j := (12 : Int32)) (inb_of S27 ⟨(by decide : ¬ ((12 : Int32) < (0 : Int32))), (by decide : (12 : Int32) < (19 : Int32))⟩) (g := (mkF m 233 #[s0, s1, s2, s3, s4, s5, s6, s7, s8, s9, s10, .unset, .unset, .unset, .unset, .unset, .unset, .unset, .unset, .unset, .unset, .unset, .unset, .unset, .unset] [(.long (1000000000000 : Int64)), (.int (12 : Int32)), (.ref ad1), (.ref ad1)])) rfl rfl (hb hby at_233)
  have Nn27 := Fr.snoc X27 Nn25 gn1
  have q28 : Old Z n0 h27 := (q26.wr W27 gn1)
  have V27 : Arv Z h27 ad1 kA1 .long (19 : Int32) [(.long (1 : Int64)), (.long (10 : Int64)), (.long (100 : Int64)), (.long (1000 : Int64)), (.long (10000 : Int64)), (.long (100000 : Int64)), (.long (1000000 : Int64)), (.long (10000000 : Int64)), (.long (100000000 : Int64)), (.long (1000000000 : Int64)), (.long (10000000000 : Int64)), (.long (100000000000 : Int64)), (.long (1000000000000 : Int64)), (.long (0 : Int64)), (.long (0 : Int64)), (.long (0 : Int64)), (.long (0 : Int64)), (.long (0 : Int64)), (.long (0 : Int64))] (.long (0 : Int64)) := (Arv.set A27 q27 S27 M27 H27 U27 rfl W27 12 rfl (Nat.le_of_ble_eq_true rfl))
  have Z27 : n0 ≤ h27.size := Nat.le_trans Z25 (Keep.of_wr W27).1
  obtain ⟨c29, A29, q29, S29, M29, H29, U29⟩ := id V27
  obtain ⟨T29, h29, X29, e29, W29, st29⟩ := stJ X27 hx hZ e27 A29 (j := (13 : Int32)) (inb_of S29 ⟨(by decide : ¬ ((13 : Int32) < (0 : Int32))), (by decide : (13 : Int32) < (19 : Int32))⟩) (g := (mkF m 240 #[s0, s1, s2, s3, s4, s5, s6, s7, s8, s9, s10, .unset, .unset, .unset, .unset, .unset, .unset, .unset, .unset, .unset, .unset, .unset, .unset, .unset, .unset] [(.long (10000000000000 : Int64)), (.int (13 : Int32)), (.ref ad1), (.ref ad1)])) rfl rfl (hb hby at_240)
  have Nn29 := Fr.snoc X29 Nn27 gn1
  have q30 : Old Z n0 h29 := (q28.wr W29 gn1)
  have V29 : Arv Z h29 ad1 kA1 .long (19 : Int32) [(.long (1 : Int64)), (.long (10 : Int64)), (.long (100 : Int64)), (.long (1000 : Int64)), (.long (10000 : Int64)), (.long (100000 : Int64)), (.long (1000000 : Int64)), (.long (10000000 : Int64)), (.long (100000000 : Int64)), (.long (1000000000 : Int64)), (.long (10000000000 : Int64)), (.long (100000000000 : Int64)), (.long (1000000000000 : Int64)), (.long (10000000000000 : Int64)), (.long (0 : Int64)), (.long (0 : Int64)), (.long (0 : Int64)), (.long (0 : Int64)), (.long (0 : Int64))] (.long (0 : Int64)) := (Arv.set A29 q29 S29 M29 H29 U29 rfl W29 13 rfl (Nat.le_of_ble_eq_true rfl))
  have Z29 : n0 ≤ h29.size := Nat.le_trans Z27 (Keep.of_wr W29).1
  obtain ⟨c31, A31, q31, S31, M31, H31, U31⟩ := id V29
  obtain ⟨T31, h31, X31, e31, W31, st31⟩ := stJ X29 hx hZ e29 A31 (j := (14 : Int32)) (inb_of S31 ⟨(by decide : ¬ ((14 : Int32) < (0 : Int32))), (by decide : (14 : Int32) < (19 : Int32))⟩) (g := (mkF m 247 #[s0, s1, s2, s3, s4, s5, s6, s7, s8, s9, s10, .unset, .unset, .unset, .unset, .unset, .unset, .unset, .unset, .unset, .unset, .unset, .unset, .unset, .unset] [(.long (100000000000000 : Int64)), (.int (14 : Int32)), (.ref ad1), (.ref ad1)])) rfl rfl (hb hby at_247)
  have Nn31 := Fr.snoc X31 Nn29 gn1
  have q32 : Old Z n0 h31 := (q30.wr W31 gn1)
  have V31 : Arv Z h31 ad1 kA1 .long (19 : Int32) [(.long (1 : Int64)), (.long (10 : Int64)), (.long (100 : Int64)), (.long (1000 : Int64)), (.long (10000 : Int64)), (.long (100000 : Int64)), (.long (1000000 : Int64)), (.long (10000000 : Int64)), (.long (100000000 : Int64)), (.long (1000000000 : Int64)), (.long (10000000000 : Int64)), (.long (100000000000 : Int64)), (.long (1000000000000 : Int64)), (.long (10000000000000 : Int64)), (.long (100000000000000 : Int64)), (.long (0 : Int64)), (.long (0 : Int64)), (.long (0 : Int64)), (.long (0 : Int64))] (.long (0 : Int64)) := (Arv.set A31 q31 S31 M31 H31 U31 rfl W31 14 rfl (Nat.le_of_ble_eq_true rfl))
  have Z31 : n0 ≤ h31.size := Nat.le_trans Z29 (Keep.of_wr W31).1
  obtain ⟨c33, A33, q33, S33, M33, H33, U33⟩ := id V31
  obtain ⟨T33, h33, X33, e33, W33, st33⟩ := stJ X31 hx hZ e31 A33 (j := (15 : Int32)) (inb_of S33 ⟨(by decide : ¬ ((15 : Int32) < (0 : Int32))), (by decide : (15 : Int32) < (19 : Int32))⟩) (g := (mkF m 254 #[s0, s1, s2, s3, s4, s5, s6, s7, s8, s9, s10, .unset, .unset, .unset, .unset, .unset, .unset, .unset, .unset, .unset, .unset, .unset, .unset, .unset, .unset] [(.long (1000000000000000 : Int64)), (.int (15 : Int32)), (.ref ad1), (.ref ad1)])) rfl rfl (hb hby at_254)
  have Nn33 := Fr.snoc X33 Nn31 gn1
  have q34 : Old Z n0 h33 := (q32.wr W33 gn1)
  have V33 : Arv Z h33 ad1 kA1 .long (19 : Int32) [(.long (1 : Int64)), (.long (10 : Int64)), (.long (100 : Int64)), (.long (1000 : Int64)), (.long (10000 : Int64)), (.long (100000 : Int64)), (.long (1000000 : Int64)), (.long (10000000 : Int64)), (.long (100000000 : Int64)), (.long (1000000000 : Int64)), (.long (10000000000 : Int64)), (.long (100000000000 : Int64)), (.long (1000000000000 : Int64)), (.long (10000000000000 : Int64)), (.long (100000000000000 : Int64)), (.long (1000000000000000 : Int64)), (.long (0 : Int64)), (.long (0 : Int64)), (.long (0 : Int64))] (.long (0 : Int64)) := (Arv.set A33 q33 S33 M33 H33 U33 rfl W33 15 rfl (Nat.le_of_ble_eq_true rfl))
  have Z33 : n0 ≤ h33.size := Nat.le_trans Z31 (Keep.of_wr W33).1
  obtain ⟨c35, A35, q35, S35, M35, H35, U35⟩ := id V33
  obtain ⟨T35, h35, X35, e35, W35, st35⟩ := stJ X33 hx hZ e33 A35 (j := (16 : Int32)) (inb_of S35 ⟨(by decide : ¬ ((16 : Int32) < (0 : Int32))), (by decide : (16 : Int32) < (19 : Int32))⟩) (g := (mkF m 261 #[s0, s1, s2, s3, s4, s5, s6, s7, s8, s9, s10, .unset, .unset, .unset, .unset, .unset, .unset, .unset, .unset, .unset, .unset, .unset, .unset, .unset, .unset] [(.long (10000000000000000 : Int64)), (.int (16 : Int32)), (.ref ad1), (.ref ad1)])) rfl rfl (hb hby at_261)
  have Nn35 := Fr.snoc X35 Nn33 gn1
  have q36 : Old Z n0 h35 := (q34.wr W35 gn1)
  have V35 : Arv Z h35 ad1 kA1 .long (19 : Int32) [(.long (1 : Int64)), (.long (10 : Int64)), (.long (100 : Int64)), (.long (1000 : Int64)), (.long (10000 : Int64)), (.long (100000 : Int64)), (.long (1000000 : Int64)), (.long (10000000 : Int64)), (.long (100000000 : Int64)), (.long (1000000000 : Int64)), (.long (10000000000 : Int64)), (.long (100000000000 : Int64)), (.long (1000000000000 : Int64)), (.long (10000000000000 : Int64)), (.long (100000000000000 : Int64)), (.long (1000000000000000 : Int64)), (.long (10000000000000000 : Int64)), (.long (0 : Int64)), (.long (0 : Int64))] (.long (0 : Int64)) := (Arv.set A35 q35 S35 M35 H35 U35 rfl W35 16 rfl (Nat.le_of_ble_eq_true rfl))
  have Z35 : n0 ≤ h35.size := Nat.le_trans Z33 (Keep.of_wr W35).1
  obtain ⟨c37, A37, q37, S37, M37, H37, U37⟩ := id V35
  obtain ⟨T37, h37, X37, e37, W37, st37⟩ := stJ X35 hx hZ e35 A37 (j := (17 : Int32)) (inb_of S37 ⟨(by decide : ¬ ((17 : Int32) < (0 : Int32))), (by decide : (17 : Int32) < (19 : Int32))⟩) (g := (mkF m 268 #[s0, s1, s2, s3, s4, s5, s6, s7, s8, s9, s10, .unset, .unset, .unset, .unset, .unset, .unset, .unset, .unset, .unset, .unset, .unset, .unset, .unset, .unset] [(.long (100000000000000000 : Int64)), (.int (17 : Int32)), (.ref ad1), (.ref ad1)])) rfl rfl (hb hby at_268)
  have Nn37 := Fr.snoc X37 Nn35 gn1
  have q38 : Old Z n0 h37 := (q36.wr W37 gn1)
  have V37 : Arv Z h37 ad1 kA1 .long (19 : Int32) [(.long (1 : Int64)), (.long (10 : Int64)), (.long (100 : Int64)), (.long (1000 : Int64)), (.long (10000 : Int64)), (.long (100000 : Int64)), (.long (1000000 : Int64)), (.long (10000000 : Int64)), (.long (100000000 : Int64)), (.long (1000000000 : Int64)), (.long (10000000000 : Int64)), (.long (100000000000 : Int64)), (.long (1000000000000 : Int64)), (.long (10000000000000 : Int64)), (.long (100000000000000 : Int64)), (.long (1000000000000000 : Int64)), (.long (10000000000000000 : Int64)), (.long (100000000000000000 : Int64)), (.long (0 : Int64))] (.long (0 : Int64)) := (Arv.set A37 q37 S37 M37 H37 U37 rfl W37 17 rfl (Nat.le_of_ble_eq_true rfl))
  have Z37 : n0 ≤ h37.size := Nat.le_trans Z35 (Keep.of_wr W37).1
  obtain ⟨c39, A39, q39, S39, M39, H39, U39⟩ := id V37
  obtain ⟨T39, h39, X39, e39, W39, st39⟩ := stJ X37 hx hZ e37 A39 (j := (18 : Int32)) (inb_of S39 ⟨(by decide : ¬ ((18 : Int32) < (0 : Int32))), (by decide : (18 : Int32) < (19 : Int32))⟩) (g := (mkF m 275 #[s0, s1, s2, s3, s4, s5, s6, s7, s8, s9, s10, .unset, .unset, .unset, .unset, .unset, .unset, .unset, .unset, .unset, .unset, .unset, .unset, .unset, .unset] [(.long (1000000000000000000 : Int64)), (.int (18 : Int32)), (.ref ad1), (.ref ad1)])) rfl rfl (hb hby at_275)
  have Nn39 := Fr.snoc X39 Nn37 gn1
  have q40 : Old Z n0 h39 := (q38.wr W39 gn1)
  have V39 : Arv Z h39 ad1 kA1 .long (19 : Int32) [(.long (1 : Int64)), (.long (10 : Int64)), (.long (100 : Int64)), (.long (1000 : Int64)), (.long (10000 : Int64)), (.long (100000 : Int64)), (.long (1000000 : Int64)), (.long (10000000 : Int64)), (.long (100000000 : Int64)), (.long (1000000000 : Int64)), (.long (10000000000 : Int64)), (.long (100000000000 : Int64)), (.long (1000000000000 : Int64)), (.long (10000000000000 : Int64)), (.long (100000000000000 : Int64)), (.long (1000000000000000 : Int64)), (.long (10000000000000000 : Int64)), (.long (100000000000000000 : Int64)), (.long (1000000000000000000 : Int64))] (.long (0 : Int64)) := (Arv.set A39 q39 S39 M39 H39 U39 rfl W39 18 rfl (Nat.le_of_ble_eq_true rfl))
  have Z39 : n0 ≤ h39.size := Nat.le_trans Z37 (Keep.of_wr W39).1
  have V41 : Arv Z h39 ad1 kA1 .long (19 : Int32) own_pwv (.long (0 : Int64)) := V39
  refine ⟨T39, _, _, ad1, kA1, X39, e39, Nn39, Z39, q40, V41, gn1, fun target k => ?_⟩
  show Steps p.tables e below (T0.setTop (mkF m 147 #[s0, s1, s2, s3, s4, s5, s6, s7, s8, s9, s10, .unset, .unset, .unset, .unset, .unset, .unset, .unset, .unset, .unset, .unset, .unset, .unset, .unset, .unset] [])) _
  refine XS.bipush X0.here hx rfl (hb hby at_147) ?_
  show Steps p.tables e below (T0.setTop (mkF m 149 #[s0, s1, s2, s3, s4, s5, s6, s7, s8, s9, s10, .unset, .unset, .unset, .unset, .unset, .unset, .unset, .unset, .unset, .unset, .unset, .unset, .unset, .unset] [(.int (19 : Int32))])) _
  refine st1 _ ?_
  show Steps p.tables e below (T1.setTop (mkF m 151 #[s0, s1, s2, s3, s4, s5, s6, s7, s8, s9, s10, .unset, .unset, .unset, .unset, .unset, .unset, .unset, .unset, .unset, .unset, .unset, .unset, .unset, .unset] [(.ref ad1)])) _
  refine XS.dup X1.here hx rfl (hb hby at_151) rfl rfl ?_
  show Steps p.tables e below (T1.setTop (mkF m 152 #[s0, s1, s2, s3, s4, s5, s6, s7, s8, s9, s10, .unset, .unset, .unset, .unset, .unset, .unset, .unset, .unset, .unset, .unset, .unset, .unset, .unset, .unset] [(.ref ad1), (.ref ad1)])) _
  refine XS.iconst X1.here hx rfl (hb hby at_152) ?_
  show Steps p.tables e below (T1.setTop (mkF m 153 #[s0, s1, s2, s3, s4, s5, s6, s7, s8, s9, s10, .unset, .unset, .unset, .unset, .unset, .unset, .unset, .unset, .unset, .unset, .unset, .unset, .unset, .unset] [(.int (0 : Int32)), (.ref ad1), (.ref ad1)])) _
  refine XT.lconst X1.here hx rfl (hb hby at_153) ?_
  show Steps p.tables e below (T1.setTop (mkF m 154 #[s0, s1, s2, s3, s4, s5, s6, s7, s8, s9, s10, .unset, .unset, .unset, .unset, .unset, .unset, .unset, .unset, .unset, .unset, .unset, .unset, .unset, .unset] [(.long (1 : Int64)), (.int (0 : Int32)), (.ref ad1), (.ref ad1)])) _
  refine st3 _ ?_
  show Steps p.tables e below (T3.setTop (mkF m 155 #[s0, s1, s2, s3, s4, s5, s6, s7, s8, s9, s10, .unset, .unset, .unset, .unset, .unset, .unset, .unset, .unset, .unset, .unset, .unset, .unset, .unset, .unset] [(.ref ad1)])) _
  refine XS.dup X3.here hx rfl (hb hby at_155) rfl rfl ?_
  show Steps p.tables e below (T3.setTop (mkF m 156 #[s0, s1, s2, s3, s4, s5, s6, s7, s8, s9, s10, .unset, .unset, .unset, .unset, .unset, .unset, .unset, .unset, .unset, .unset, .unset, .unset, .unset, .unset] [(.ref ad1), (.ref ad1)])) _
  refine XS.iconst X3.here hx rfl (hb hby at_156) ?_
  show Steps p.tables e below (T3.setTop (mkF m 157 #[s0, s1, s2, s3, s4, s5, s6, s7, s8, s9, s10, .unset, .unset, .unset, .unset, .unset, .unset, .unset, .unset, .unset, .unset, .unset, .unset, .unset, .unset] [(.int (1 : Int32)), (.ref ad1), (.ref ad1)])) _
  refine X3.ldc2J hx hown (mvT hZ (hw _ (List.mem_of_getElem? (i := 3) rfl))) (g := (mkF m 157 #[s0, s1, s2, s3, s4, s5, s6, s7, s8, s9, s10, .unset, .unset, .unset, .unset, .unset, .unset, .unset, .unset, .unset, .unset, .unset, .unset, .unset, .unset] [(.int (1 : Int32)), (.ref ad1), (.ref ad1)])) rfl (hb hby at_157) ?_
  show Steps p.tables e below (T3.setTop (mkF m 160 #[s0, s1, s2, s3, s4, s5, s6, s7, s8, s9, s10, .unset, .unset, .unset, .unset, .unset, .unset, .unset, .unset, .unset, .unset, .unset, .unset, .unset, .unset] [(.long (10 : Int64)), (.int (1 : Int32)), (.ref ad1), (.ref ad1)])) _
  refine st5 _ ?_
  show Steps p.tables e below (T5.setTop (mkF m 161 #[s0, s1, s2, s3, s4, s5, s6, s7, s8, s9, s10, .unset, .unset, .unset, .unset, .unset, .unset, .unset, .unset, .unset, .unset, .unset, .unset, .unset, .unset] [(.ref ad1)])) _
  refine XS.dup X5.here hx rfl (hb hby at_161) rfl rfl ?_
  show Steps p.tables e below (T5.setTop (mkF m 162 #[s0, s1, s2, s3, s4, s5, s6, s7, s8, s9, s10, .unset, .unset, .unset, .unset, .unset, .unset, .unset, .unset, .unset, .unset, .unset, .unset, .unset, .unset] [(.ref ad1), (.ref ad1)])) _
  refine XS.iconst X5.here hx rfl (hb hby at_162) ?_
  show Steps p.tables e below (T5.setTop (mkF m 163 #[s0, s1, s2, s3, s4, s5, s6, s7, s8, s9, s10, .unset, .unset, .unset, .unset, .unset, .unset, .unset, .unset, .unset, .unset, .unset, .unset, .unset, .unset] [(.int (2 : Int32)), (.ref ad1), (.ref ad1)])) _
  refine X5.ldc2J hx hown (mvT hZ (hw _ (List.mem_of_getElem? (i := 4) rfl))) (g := (mkF m 163 #[s0, s1, s2, s3, s4, s5, s6, s7, s8, s9, s10, .unset, .unset, .unset, .unset, .unset, .unset, .unset, .unset, .unset, .unset, .unset, .unset, .unset, .unset] [(.int (2 : Int32)), (.ref ad1), (.ref ad1)])) rfl (hb hby at_163) ?_
  show Steps p.tables e below (T5.setTop (mkF m 166 #[s0, s1, s2, s3, s4, s5, s6, s7, s8, s9, s10, .unset, .unset, .unset, .unset, .unset, .unset, .unset, .unset, .unset, .unset, .unset, .unset, .unset, .unset] [(.long (100 : Int64)), (.int (2 : Int32)), (.ref ad1), (.ref ad1)])) _
  refine st7 _ ?_
  show Steps p.tables e below (T7.setTop (mkF m 167 #[s0, s1, s2, s3, s4, s5, s6, s7, s8, s9, s10, .unset, .unset, .unset, .unset, .unset, .unset, .unset, .unset, .unset, .unset, .unset, .unset, .unset, .unset] [(.ref ad1)])) _
  refine XS.dup X7.here hx rfl (hb hby at_167) rfl rfl ?_
  show Steps p.tables e below (T7.setTop (mkF m 168 #[s0, s1, s2, s3, s4, s5, s6, s7, s8, s9, s10, .unset, .unset, .unset, .unset, .unset, .unset, .unset, .unset, .unset, .unset, .unset, .unset, .unset, .unset] [(.ref ad1), (.ref ad1)])) _
  refine XS.iconst X7.here hx rfl (hb hby at_168) ?_
  show Steps p.tables e below (T7.setTop (mkF m 169 #[s0, s1, s2, s3, s4, s5, s6, s7, s8, s9, s10, .unset, .unset, .unset, .unset, .unset, .unset, .unset, .unset, .unset, .unset, .unset, .unset, .unset, .unset] [(.int (3 : Int32)), (.ref ad1), (.ref ad1)])) _
  refine X7.ldc2J hx hown (mvT hZ (hw _ (List.mem_of_getElem? (i := 5) rfl))) (g := (mkF m 169 #[s0, s1, s2, s3, s4, s5, s6, s7, s8, s9, s10, .unset, .unset, .unset, .unset, .unset, .unset, .unset, .unset, .unset, .unset, .unset, .unset, .unset, .unset] [(.int (3 : Int32)), (.ref ad1), (.ref ad1)])) rfl (hb hby at_169) ?_
  show Steps p.tables e below (T7.setTop (mkF m 172 #[s0, s1, s2, s3, s4, s5, s6, s7, s8, s9, s10, .unset, .unset, .unset, .unset, .unset, .unset, .unset, .unset, .unset, .unset, .unset, .unset, .unset, .unset] [(.long (1000 : Int64)), (.int (3 : Int32)), (.ref ad1), (.ref ad1)])) _
  refine st9 _ ?_
  show Steps p.tables e below (T9.setTop (mkF m 173 #[s0, s1, s2, s3, s4, s5, s6, s7, s8, s9, s10, .unset, .unset, .unset, .unset, .unset, .unset, .unset, .unset, .unset, .unset, .unset, .unset, .unset, .unset] [(.ref ad1)])) _
  refine XS.dup X9.here hx rfl (hb hby at_173) rfl rfl ?_
  show Steps p.tables e below (T9.setTop (mkF m 174 #[s0, s1, s2, s3, s4, s5, s6, s7, s8, s9, s10, .unset, .unset, .unset, .unset, .unset, .unset, .unset, .unset, .unset, .unset, .unset, .unset, .unset, .unset] [(.ref ad1), (.ref ad1)])) _
  refine XS.iconst X9.here hx rfl (hb hby at_174) ?_
  show Steps p.tables e below (T9.setTop (mkF m 175 #[s0, s1, s2, s3, s4, s5, s6, s7, s8, s9, s10, .unset, .unset, .unset, .unset, .unset, .unset, .unset, .unset, .unset, .unset, .unset, .unset, .unset, .unset] [(.int (4 : Int32)), (.ref ad1), (.ref ad1)])) _
  refine X9.ldc2J hx hown (mvT hZ (hw _ (List.mem_of_getElem? (i := 6) rfl))) (g := (mkF m 175 #[s0, s1, s2, s3, s4, s5, s6, s7, s8, s9, s10, .unset, .unset, .unset, .unset, .unset, .unset, .unset, .unset, .unset, .unset, .unset, .unset, .unset, .unset] [(.int (4 : Int32)), (.ref ad1), (.ref ad1)])) rfl (hb hby at_175) ?_
  show Steps p.tables e below (T9.setTop (mkF m 178 #[s0, s1, s2, s3, s4, s5, s6, s7, s8, s9, s10, .unset, .unset, .unset, .unset, .unset, .unset, .unset, .unset, .unset, .unset, .unset, .unset, .unset, .unset] [(.long (10000 : Int64)), (.int (4 : Int32)), (.ref ad1), (.ref ad1)])) _
  refine st11 _ ?_
  show Steps p.tables e below (T11.setTop (mkF m 179 #[s0, s1, s2, s3, s4, s5, s6, s7, s8, s9, s10, .unset, .unset, .unset, .unset, .unset, .unset, .unset, .unset, .unset, .unset, .unset, .unset, .unset, .unset] [(.ref ad1)])) _
  refine XS.dup X11.here hx rfl (hb hby at_179) rfl rfl ?_
  show Steps p.tables e below (T11.setTop (mkF m 180 #[s0, s1, s2, s3, s4, s5, s6, s7, s8, s9, s10, .unset, .unset, .unset, .unset, .unset, .unset, .unset, .unset, .unset, .unset, .unset, .unset, .unset, .unset] [(.ref ad1), (.ref ad1)])) _
  refine XS.iconst X11.here hx rfl (hb hby at_180) ?_
  show Steps p.tables e below (T11.setTop (mkF m 181 #[s0, s1, s2, s3, s4, s5, s6, s7, s8, s9, s10, .unset, .unset, .unset, .unset, .unset, .unset, .unset, .unset, .unset, .unset, .unset, .unset, .unset, .unset] [(.int (5 : Int32)), (.ref ad1), (.ref ad1)])) _
  refine X11.ldc2J hx hown (mvT hZ (hw _ (List.mem_of_getElem? (i := 7) rfl))) (g := (mkF m 181 #[s0, s1, s2, s3, s4, s5, s6, s7, s8, s9, s10, .unset, .unset, .unset, .unset, .unset, .unset, .unset, .unset, .unset, .unset, .unset, .unset, .unset, .unset] [(.int (5 : Int32)), (.ref ad1), (.ref ad1)])) rfl (hb hby at_181) ?_
  show Steps p.tables e below (T11.setTop (mkF m 184 #[s0, s1, s2, s3, s4, s5, s6, s7, s8, s9, s10, .unset, .unset, .unset, .unset, .unset, .unset, .unset, .unset, .unset, .unset, .unset, .unset, .unset, .unset] [(.long (100000 : Int64)), (.int (5 : Int32)), (.ref ad1), (.ref ad1)])) _
  refine st13 _ ?_
  show Steps p.tables e below (T13.setTop (mkF m 185 #[s0, s1, s2, s3, s4, s5, s6, s7, s8, s9, s10, .unset, .unset, .unset, .unset, .unset, .unset, .unset, .unset, .unset, .unset, .unset, .unset, .unset, .unset] [(.ref ad1)])) _
  refine XS.dup X13.here hx rfl (hb hby at_185) rfl rfl ?_
  show Steps p.tables e below (T13.setTop (mkF m 186 #[s0, s1, s2, s3, s4, s5, s6, s7, s8, s9, s10, .unset, .unset, .unset, .unset, .unset, .unset, .unset, .unset, .unset, .unset, .unset, .unset, .unset, .unset] [(.ref ad1), (.ref ad1)])) _
  refine XS.bipush X13.here hx rfl (hb hby at_186) ?_
  show Steps p.tables e below (T13.setTop (mkF m 188 #[s0, s1, s2, s3, s4, s5, s6, s7, s8, s9, s10, .unset, .unset, .unset, .unset, .unset, .unset, .unset, .unset, .unset, .unset, .unset, .unset, .unset, .unset] [(.int (6 : Int32)), (.ref ad1), (.ref ad1)])) _
  refine X13.ldc2J hx hown (mvT hZ (hw _ (List.mem_of_getElem? (i := 8) rfl))) (g := (mkF m 188 #[s0, s1, s2, s3, s4, s5, s6, s7, s8, s9, s10, .unset, .unset, .unset, .unset, .unset, .unset, .unset, .unset, .unset, .unset, .unset, .unset, .unset, .unset] [(.int (6 : Int32)), (.ref ad1), (.ref ad1)])) rfl (hb hby at_188) ?_
  show Steps p.tables e below (T13.setTop (mkF m 191 #[s0, s1, s2, s3, s4, s5, s6, s7, s8, s9, s10, .unset, .unset, .unset, .unset, .unset, .unset, .unset, .unset, .unset, .unset, .unset, .unset, .unset, .unset] [(.long (1000000 : Int64)), (.int (6 : Int32)), (.ref ad1), (.ref ad1)])) _
  refine st15 _ ?_
  show Steps p.tables e below (T15.setTop (mkF m 192 #[s0, s1, s2, s3, s4, s5, s6, s7, s8, s9, s10, .unset, .unset, .unset, .unset, .unset, .unset, .unset, .unset, .unset, .unset, .unset, .unset, .unset, .unset] [(.ref ad1)])) _
  refine XS.dup X15.here hx rfl (hb hby at_192) rfl rfl ?_
  show Steps p.tables e below (T15.setTop (mkF m 193 #[s0, s1, s2, s3, s4, s5, s6, s7, s8, s9, s10, .unset, .unset, .unset, .unset, .unset, .unset, .unset, .unset, .unset, .unset, .unset, .unset, .unset, .unset] [(.ref ad1), (.ref ad1)])) _
  refine XS.bipush X15.here hx rfl (hb hby at_193) ?_
  show Steps p.tables e below (T15.setTop (mkF m 195 #[s0, s1, s2, s3, s4, s5, s6, s7, s8, s9, s10, .unset, .unset, .unset, .unset, .unset, .unset, .unset, .unset, .unset, .unset, .unset, .unset, .unset, .unset] [(.int (7 : Int32)), (.ref ad1), (.ref ad1)])) _
  refine X15.ldc2J hx hown (mvT hZ (hw _ (List.mem_of_getElem? (i := 9) rfl))) (g := (mkF m 195 #[s0, s1, s2, s3, s4, s5, s6, s7, s8, s9, s10, .unset, .unset, .unset, .unset, .unset, .unset, .unset, .unset, .unset, .unset, .unset, .unset, .unset, .unset] [(.int (7 : Int32)), (.ref ad1), (.ref ad1)])) rfl (hb hby at_195) ?_
  show Steps p.tables e below (T15.setTop (mkF m 198 #[s0, s1, s2, s3, s4, s5, s6, s7, s8, s9, s10, .unset, .unset, .unset, .unset, .unset, .unset, .unset, .unset, .unset, .unset, .unset, .unset, .unset, .unset] [(.long (10000000 : Int64)), (.int (7 : Int32)), (.ref ad1), (.ref ad1)])) _
  refine st17 _ ?_
  show Steps p.tables e below (T17.setTop (mkF m 199 #[s0, s1, s2, s3, s4, s5, s6, s7, s8, s9, s10, .unset, .unset, .unset, .unset, .unset, .unset, .unset, .unset, .unset, .unset, .unset, .unset, .unset, .unset] [(.ref ad1)])) _
  refine XS.dup X17.here hx rfl (hb hby at_199) rfl rfl ?_
  show Steps p.tables e below (T17.setTop (mkF m 200 #[s0, s1, s2, s3, s4, s5, s6, s7, s8, s9, s10, .unset, .unset, .unset, .unset, .unset, .unset, .unset, .unset, .unset, .unset, .unset, .unset, .unset, .unset] [(.ref ad1), (.ref ad1)])) _
  refine XS.bipush X17.here hx rfl (hb hby at_200) ?_
  show Steps p.tables e below (T17.setTop (mkF m 202 #[s0, s1, s2, s3, s4, s5, s6, s7, s8, s9, s10, .unset, .unset, .unset, .unset, .unset, .unset, .unset, .unset, .unset, .unset, .unset, .unset, .unset, .unset] [(.int (8 : Int32)), (.ref ad1), (.ref ad1)])) _
  refine X17.ldc2J hx hown (mvT hZ (hw _ (List.mem_of_getElem? (i := 10) rfl))) (g := (mkF m 202 #[s0, s1, s2, s3, s4, s5, s6, s7, s8, s9, s10, .unset, .unset, .unset, .unset, .unset, .unset, .unset, .unset, .unset, .unset, .unset, .unset, .unset, .unset] [(.int (8 : Int32)), (.ref ad1), (.ref ad1)])) rfl (hb hby at_202) ?_
  show Steps p.tables e below (T17.setTop (mkF m 205 #[s0, s1, s2, s3, s4, s5, s6, s7, s8, s9, s10, .unset, .unset, .unset, .unset, .unset, .unset, .unset, .unset, .unset, .unset, .unset, .unset, .unset, .unset] [(.long (100000000 : Int64)), (.int (8 : Int32)), (.ref ad1), (.ref ad1)])) _
  refine st19 _ ?_
  show Steps p.tables e below (T19.setTop (mkF m 206 #[s0, s1, s2, s3, s4, s5, s6, s7, s8, s9, s10, .unset, .unset, .unset, .unset, .unset, .unset, .unset, .unset, .unset, .unset, .unset, .unset, .unset, .unset] [(.ref ad1)])) _
  refine XS.dup X19.here hx rfl (hb hby at_206) rfl rfl ?_
  show Steps p.tables e below (T19.setTop (mkF m 207 #[s0, s1, s2, s3, s4, s5, s6, s7, s8, s9, s10, .unset, .unset, .unset, .unset, .unset, .unset, .unset, .unset, .unset, .unset, .unset, .unset, .unset, .unset] [(.ref ad1), (.ref ad1)])) _
  refine XS.bipush X19.here hx rfl (hb hby at_207) ?_
  show Steps p.tables e below (T19.setTop (mkF m 209 #[s0, s1, s2, s3, s4, s5, s6, s7, s8, s9, s10, .unset, .unset, .unset, .unset, .unset, .unset, .unset, .unset, .unset, .unset, .unset, .unset, .unset, .unset] [(.int (9 : Int32)), (.ref ad1), (.ref ad1)])) _
  refine X19.ldc2J hx hown (mvT hZ (hw _ (List.mem_of_getElem? (i := 11) rfl))) (g := (mkF m 209 #[s0, s1, s2, s3, s4, s5, s6, s7, s8, s9, s10, .unset, .unset, .unset, .unset, .unset, .unset, .unset, .unset, .unset, .unset, .unset, .unset, .unset, .unset] [(.int (9 : Int32)), (.ref ad1), (.ref ad1)])) rfl (hb hby at_209) ?_
  show Steps p.tables e below (T19.setTop (mkF m 212 #[s0, s1, s2, s3, s4, s5, s6, s7, s8, s9, s10, .unset, .unset, .unset, .unset, .unset, .unset, .unset, .unset, .unset, .unset, .unset, .unset, .unset, .unset] [(.long (1000000000 : Int64)), (.int (9 : Int32)), (.ref ad1), (.ref ad1)])) _
  refine st21 _ ?_
  show Steps p.tables e below (T21.setTop (mkF m 213 #[s0, s1, s2, s3, s4, s5, s6, s7, s8, s9, s10, .unset, .unset, .unset, .unset, .unset, .unset, .unset, .unset, .unset, .unset, .unset, .unset, .unset, .unset] [(.ref ad1)])) _
  refine XS.dup X21.here hx rfl (hb hby at_213) rfl rfl ?_
  show Steps p.tables e below (T21.setTop (mkF m 214 #[s0, s1, s2, s3, s4, s5, s6, s7, s8, s9, s10, .unset, .unset, .unset, .unset, .unset, .unset, .unset, .unset, .unset, .unset, .unset, .unset, .unset, .unset] [(.ref ad1), (.ref ad1)])) _
  refine XS.bipush X21.here hx rfl (hb hby at_214) ?_
  show Steps p.tables e below (T21.setTop (mkF m 216 #[s0, s1, s2, s3, s4, s5, s6, s7, s8, s9, s10, .unset, .unset, .unset, .unset, .unset, .unset, .unset, .unset, .unset, .unset, .unset, .unset, .unset, .unset] [(.int (10 : Int32)), (.ref ad1), (.ref ad1)])) _
  refine X21.ldc2J hx hown (mvT hZ (hw _ (List.mem_of_getElem? (i := 12) rfl))) (g := (mkF m 216 #[s0, s1, s2, s3, s4, s5, s6, s7, s8, s9, s10, .unset, .unset, .unset, .unset, .unset, .unset, .unset, .unset, .unset, .unset, .unset, .unset, .unset, .unset] [(.int (10 : Int32)), (.ref ad1), (.ref ad1)])) rfl (hb hby at_216) ?_
  show Steps p.tables e below (T21.setTop (mkF m 219 #[s0, s1, s2, s3, s4, s5, s6, s7, s8, s9, s10, .unset, .unset, .unset, .unset, .unset, .unset, .unset, .unset, .unset, .unset, .unset, .unset, .unset, .unset] [(.long (10000000000 : Int64)), (.int (10 : Int32)), (.ref ad1), (.ref ad1)])) _
  refine st23 _ ?_
  show Steps p.tables e below (T23.setTop (mkF m 220 #[s0, s1, s2, s3, s4, s5, s6, s7, s8, s9, s10, .unset, .unset, .unset, .unset, .unset, .unset, .unset, .unset, .unset, .unset, .unset, .unset, .unset, .unset] [(.ref ad1)])) _
  refine XS.dup X23.here hx rfl (hb hby at_220) rfl rfl ?_
  show Steps p.tables e below (T23.setTop (mkF m 221 #[s0, s1, s2, s3, s4, s5, s6, s7, s8, s9, s10, .unset, .unset, .unset, .unset, .unset, .unset, .unset, .unset, .unset, .unset, .unset, .unset, .unset, .unset] [(.ref ad1), (.ref ad1)])) _
  refine XS.bipush X23.here hx rfl (hb hby at_221) ?_
  show Steps p.tables e below (T23.setTop (mkF m 223 #[s0, s1, s2, s3, s4, s5, s6, s7, s8, s9, s10, .unset, .unset, .unset, .unset, .unset, .unset, .unset, .unset, .unset, .unset, .unset, .unset, .unset, .unset] [(.int (11 : Int32)), (.ref ad1), (.ref ad1)])) _
  refine X23.ldc2J hx hown (mvT hZ (hw _ (List.mem_of_getElem? (i := 13) rfl))) (g := (mkF m 223 #[s0, s1, s2, s3, s4, s5, s6, s7, s8, s9, s10, .unset, .unset, .unset, .unset, .unset, .unset, .unset, .unset, .unset, .unset, .unset, .unset, .unset, .unset] [(.int (11 : Int32)), (.ref ad1), (.ref ad1)])) rfl (hb hby at_223) ?_
  show Steps p.tables e below (T23.setTop (mkF m 226 #[s0, s1, s2, s3, s4, s5, s6, s7, s8, s9, s10, .unset, .unset, .unset, .unset, .unset, .unset, .unset, .unset, .unset, .unset, .unset, .unset, .unset, .unset] [(.long (100000000000 : Int64)), (.int (11 : Int32)), (.ref ad1), (.ref ad1)])) _
  refine st25 _ ?_
  show Steps p.tables e below (T25.setTop (mkF m 227 #[s0, s1, s2, s3, s4, s5, s6, s7, s8, s9, s10, .unset, .unset, .unset, .unset, .unset, .unset, .unset, .unset, .unset, .unset, .unset, .unset, .unset, .unset] [(.ref ad1)])) _
  refine XS.dup X25.here hx rfl (hb hby at_227) rfl rfl ?_
  show Steps p.tables e below (T25.setTop (mkF m 228 #[s0, s1, s2, s3, s4, s5, s6, s7, s8, s9, s10, .unset, .unset, .unset, .unset, .unset, .unset, .unset, .unset, .unset, .unset, .unset, .unset, .unset, .unset] [(.ref ad1), (.ref ad1)])) _
  refine XS.bipush X25.here hx rfl (hb hby at_228) ?_
  show Steps p.tables e below (T25.setTop (mkF m 230 #[s0, s1, s2, s3, s4, s5, s6, s7, s8, s9, s10, .unset, .unset, .unset, .unset, .unset, .unset, .unset, .unset, .unset, .unset, .unset, .unset, .unset, .unset] [(.int (12 : Int32)), (.ref ad1), (.ref ad1)])) _
  refine X25.ldc2J hx hown (mvT hZ (hw _ (List.mem_of_getElem? (i := 14) rfl))) (g := (mkF m 230 #[s0, s1, s2, s3, s4, s5, s6, s7, s8, s9, s10, .unset, .unset, .unset, .unset, .unset, .unset, .unset, .unset, .unset, .unset, .unset, .unset, .unset, .unset] [(.int (12 : Int32)), (.ref ad1), (.ref ad1)])) rfl (hb hby at_230) ?_
  show Steps p.tables e below (T25.setTop (mkF m 233 #[s0, s1, s2, s3, s4, s5, s6, s7, s8, s9, s10, .unset, .unset, .unset, .unset, .unset, .unset, .unset, .unset, .unset, .unset, .unset, .unset, .unset, .unset] [(.long (1000000000000 : Int64)), (.int (12 : Int32)), (.ref ad1), (.ref ad1)])) _
  refine st27 _ ?_
  show Steps p.tables e below (T27.setTop (mkF m 234 #[s0, s1, s2, s3, s4, s5, s6, s7, s8, s9, s10, .unset, .unset, .unset, .unset, .unset, .unset, .unset, .unset, .unset, .unset, .unset, .unset, .unset, .unset] [(.ref ad1)])) _
  refine XS.dup X27.here hx rfl (hb hby at_234) rfl rfl ?_
  show Steps p.tables e below (T27.setTop (mkF m 235 #[s0, s1, s2, s3, s4, s5, s6, s7, s8, s9, s10, .unset, .unset, .unset, .unset, .unset, .unset, .unset, .unset, .unset, .unset, .unset, .unset, .unset, .unset] [(.ref ad1), (.ref ad1)])) _
  refine XS.bipush X27.here hx rfl (hb hby at_235) ?_
  show Steps p.tables e below (T27.setTop (mkF m 237 #[s0, s1, s2, s3, s4, s5, s6, s7, s8, s9, s10, .unset, .unset, .unset, .unset, .unset, .unset, .unset, .unset, .unset, .unset, .unset, .unset, .unset, .unset] [(.int (13 : Int32)), (.ref ad1), (.ref ad1)])) _
  refine X27.ldc2J hx hown (mvT hZ (hw _ (List.mem_of_getElem? (i := 15) rfl))) (g := (mkF m 237 #[s0, s1, s2, s3, s4, s5, s6, s7, s8, s9, s10, .unset, .unset, .unset, .unset, .unset, .unset, .unset, .unset, .unset, .unset, .unset, .unset, .unset, .unset] [(.int (13 : Int32)), (.ref ad1), (.ref ad1)])) rfl (hb hby at_237) ?_
  show Steps p.tables e below (T27.setTop (mkF m 240 #[s0, s1, s2, s3, s4, s5, s6, s7, s8, s9, s10, .unset, .unset, .unset, .unset, .unset, .unset, .unset, .unset, .unset, .unset, .unset, .unset, .unset, .unset] [(.long (10000000000000 : Int64)), (.int (13 : Int32)), (.ref ad1), (.ref ad1)])) _
  refine st29 _ ?_
  show Steps p.tables e below (T29.setTop (mkF m 241 #[s0, s1, s2, s3, s4, s5, s6, s7, s8, s9, s10, .unset, .unset, .unset, .unset, .unset, .unset, .unset, .unset, .unset, .unset, .unset, .unset, .unset, .unset] [(.ref ad1)])) _
  refine XS.dup X29.here hx rfl (hb hby at_241) rfl rfl ?_
  show Steps p.tables e below (T29.setTop (mkF m 242 #[s0, s1, s2, s3, s4, s5, s6, s7, s8, s9, s10, .unset, .unset, .unset, .unset, .unset, .unset, .unset, .unset, .unset, .unset, .unset, .unset, .unset, .unset] [(.ref ad1), (.ref ad1)])) _
  refine XS.bipush X29.here hx rfl (hb hby at_242) ?_
  show Steps p.tables e below (T29.setTop (mkF m 244 #[s0, s1, s2, s3, s4, s5, s6, s7, s8, s9, s10, .unset, .unset, .unset, .unset, .unset, .unset, .unset, .unset, .unset, .unset, .unset, .unset, .unset, .unset] [(.int (14 : Int32)), (.ref ad1), (.ref ad1)])) _
  refine X29.ldc2J hx hown (mvT hZ (hw _ (List.mem_of_getElem? (i := 16) rfl))) (g := (mkF m 244 #[s0, s1, s2, s3, s4, s5, s6, s7, s8, s9, s10, .unset, .unset, .unset, .unset, .unset, .unset, .unset, .unset, .unset, .unset, .unset, .unset, .unset, .unset] [(.int (14 : Int32)), (.ref ad1), (.ref ad1)])) rfl (hb hby at_244) ?_
  show Steps p.tables e below (T29.setTop (mkF m 247 #[s0, s1, s2, s3, s4, s5, s6, s7, s8, s9, s10, .unset, .unset, .unset, .unset, .unset, .unset, .unset, .unset, .unset, .unset, .unset, .unset, .unset, .unset] [(.long (100000000000000 : Int64)), (.int (14 : Int32)), (.ref ad1), (.ref ad1)])) _
  refine st31 _ ?_
  show Steps p.tables e below (T31.setTop (mkF m 248 #[s0, s1, s2, s3, s4, s5, s6, s7, s8, s9, s10, .unset, .unset, .unset, .unset, .unset, .unset, .unset, .unset, .unset, .unset, .unset, .unset, .unset, .unset] [(.ref ad1)])) _
  refine XS.dup X31.here hx rfl (hb hby at_248) rfl rfl ?_
  show Steps p.tables e below (T31.setTop (mkF m 249 #[s0, s1, s2, s3, s4, s5, s6, s7, s8, s9, s10, .unset, .unset, .unset, .unset, .unset, .unset, .unset, .unset, .unset, .unset, .unset, .unset, .unset, .unset] [(.ref ad1), (.ref ad1)])) _
  refine XS.bipush X31.here hx rfl (hb hby at_249) ?_
  show Steps p.tables e below (T31.setTop (mkF m 251 #[s0, s1, s2, s3, s4, s5, s6, s7, s8, s9, s10, .unset, .unset, .unset, .unset, .unset, .unset, .unset, .unset, .unset, .unset, .unset, .unset, .unset, .unset] [(.int (15 : Int32)), (.ref ad1), (.ref ad1)])) _
  refine X31.ldc2J hx hown (mvT hZ (hw _ (List.mem_of_getElem? (i := 17) rfl))) (g := (mkF m 251 #[s0, s1, s2, s3, s4, s5, s6, s7, s8, s9, s10, .unset, .unset, .unset, .unset, .unset, .unset, .unset, .unset, .unset, .unset, .unset, .unset, .unset, .unset] [(.int (15 : Int32)), (.ref ad1), (.ref ad1)])) rfl (hb hby at_251) ?_
  show Steps p.tables e below (T31.setTop (mkF m 254 #[s0, s1, s2, s3, s4, s5, s6, s7, s8, s9, s10, .unset, .unset, .unset, .unset, .unset, .unset, .unset, .unset, .unset, .unset, .unset, .unset, .unset, .unset] [(.long (1000000000000000 : Int64)), (.int (15 : Int32)), (.ref ad1), (.ref ad1)])) _
  refine st33 _ ?_
  show Steps p.tables e below (T33.setTop (mkF m 255 #[s0, s1, s2, s3, s4, s5, s6, s7, s8, s9, s10, .unset, .unset, .unset, .unset, .unset, .unset, .unset, .unset, .unset, .unset, .unset, .unset, .unset, .unset] [(.ref ad1)])) _
  refine XS.dup X33.here hx rfl (hb hby at_255) rfl rfl ?_
  show Steps p.tables e below (T33.setTop (mkF m 256 #[s0, s1, s2, s3, s4, s5, s6, s7, s8, s9, s10, .unset, .unset, .unset, .unset, .unset, .unset, .unset, .unset, .unset, .unset, .unset, .unset, .unset, .unset] [(.ref ad1), (.ref ad1)])) _
  refine XS.bipush X33.here hx rfl (hb hby at_256) ?_
  show Steps p.tables e below (T33.setTop (mkF m 258 #[s0, s1, s2, s3, s4, s5, s6, s7, s8, s9, s10, .unset, .unset, .unset, .unset, .unset, .unset, .unset, .unset, .unset, .unset, .unset, .unset, .unset, .unset] [(.int (16 : Int32)), (.ref ad1), (.ref ad1)])) _
  refine X33.ldc2J hx hown (mvT hZ (hw _ (List.mem_of_getElem? (i := 18) rfl))) (g := (mkF m 258 #[s0, s1, s2, s3, s4, s5, s6, s7, s8, s9, s10, .unset, .unset, .unset, .unset, .unset, .unset, .unset, .unset, .unset, .unset, .unset, .unset, .unset, .unset] [(.int (16 : Int32)), (.ref ad1), (.ref ad1)])) rfl (hb hby at_258) ?_
  show Steps p.tables e below (T33.setTop (mkF m 261 #[s0, s1, s2, s3, s4, s5, s6, s7, s8, s9, s10, .unset, .unset, .unset, .unset, .unset, .unset, .unset, .unset, .unset, .unset, .unset, .unset, .unset, .unset] [(.long (10000000000000000 : Int64)), (.int (16 : Int32)), (.ref ad1), (.ref ad1)])) _
  refine st35 _ ?_
  show Steps p.tables e below (T35.setTop (mkF m 262 #[s0, s1, s2, s3, s4, s5, s6, s7, s8, s9, s10, .unset, .unset, .unset, .unset, .unset, .unset, .unset, .unset, .unset, .unset, .unset, .unset, .unset, .unset] [(.ref ad1)])) _
  refine XS.dup X35.here hx rfl (hb hby at_262) rfl rfl ?_
  show Steps p.tables e below (T35.setTop (mkF m 263 #[s0, s1, s2, s3, s4, s5, s6, s7, s8, s9, s10, .unset, .unset, .unset, .unset, .unset, .unset, .unset, .unset, .unset, .unset, .unset, .unset, .unset, .unset] [(.ref ad1), (.ref ad1)])) _
  refine XS.bipush X35.here hx rfl (hb hby at_263) ?_
  show Steps p.tables e below (T35.setTop (mkF m 265 #[s0, s1, s2, s3, s4, s5, s6, s7, s8, s9, s10, .unset, .unset, .unset, .unset, .unset, .unset, .unset, .unset, .unset, .unset, .unset, .unset, .unset, .unset] [(.int (17 : Int32)), (.ref ad1), (.ref ad1)])) _
  refine X35.ldc2J hx hown (mvT hZ (hw _ (List.mem_of_getElem? (i := 19) rfl))) (g := (mkF m 265 #[s0, s1, s2, s3, s4, s5, s6, s7, s8, s9, s10, .unset, .unset, .unset, .unset, .unset, .unset, .unset, .unset, .unset, .unset, .unset, .unset, .unset, .unset] [(.int (17 : Int32)), (.ref ad1), (.ref ad1)])) rfl (hb hby at_265) ?_
  show Steps p.tables e below (T35.setTop (mkF m 268 #[s0, s1, s2, s3, s4, s5, s6, s7, s8, s9, s10, .unset, .unset, .unset, .unset, .unset, .unset, .unset, .unset, .unset, .unset, .unset, .unset, .unset, .unset] [(.long (100000000000000000 : Int64)), (.int (17 : Int32)), (.ref ad1), (.ref ad1)])) _
  refine st37 _ ?_
  show Steps p.tables e below (T37.setTop (mkF m 269 #[s0, s1, s2, s3, s4, s5, s6, s7, s8, s9, s10, .unset, .unset, .unset, .unset, .unset, .unset, .unset, .unset, .unset, .unset, .unset, .unset, .unset, .unset] [(.ref ad1)])) _
  refine XS.dup X37.here hx rfl (hb hby at_269) rfl rfl ?_
  show Steps p.tables e below (T37.setTop (mkF m 270 #[s0, s1, s2, s3, s4, s5, s6, s7, s8, s9, s10, .unset, .unset, .unset, .unset, .unset, .unset, .unset, .unset, .unset, .unset, .unset, .unset, .unset, .unset] [(.ref ad1), (.ref ad1)])) _
  refine XS.bipush X37.here hx rfl (hb hby at_270) ?_
  show Steps p.tables e below (T37.setTop (mkF m 272 #[s0, s1, s2, s3, s4, s5, s6, s7, s8, s9, s10, .unset, .unset, .unset, .unset, .unset, .unset, .unset, .unset, .unset, .unset, .unset, .unset, .unset, .unset] [(.int (18 : Int32)), (.ref ad1), (.ref ad1)])) _
  refine X37.ldc2J hx hown (mvT hZ (hw _ (List.mem_of_getElem? (i := 20) rfl))) (g := (mkF m 272 #[s0, s1, s2, s3, s4, s5, s6, s7, s8, s9, s10, .unset, .unset, .unset, .unset, .unset, .unset, .unset, .unset, .unset, .unset, .unset, .unset, .unset, .unset] [(.int (18 : Int32)), (.ref ad1), (.ref ad1)])) rfl (hb hby at_272) ?_
  show Steps p.tables e below (T37.setTop (mkF m 275 #[s0, s1, s2, s3, s4, s5, s6, s7, s8, s9, s10, .unset, .unset, .unset, .unset, .unset, .unset, .unset, .unset, .unset, .unset, .unset, .unset, .unset, .unset] [(.long (1000000000000000000 : Int64)), (.int (18 : Int32)), (.ref ad1), (.ref ad1)])) _
  refine st39 _ ?_
  show Steps p.tables e below (T39.setTop (mkF m 276 #[s0, s1, s2, s3, s4, s5, s6, s7, s8, s9, s10, .unset, .unset, .unset, .unset, .unset, .unset, .unset, .unset, .unset, .unset, .unset, .unset, .unset, .unset] [(.ref ad1)])) _
  refine XS.astore X39.here hx rfl (hb hby at_276) rfl rfl (l' := #[s0, s1, s2, s3, s4, s5, s6, s7, s8, s9, s10, .val (.ref ad1), .unset, .unset, .unset, .unset, .unset, .unset, .unset, .unset, .unset, .unset, .unset, .unset, .unset]) rfl ?_
  show Steps p.tables e below (T39.setTop (mkF m 278 #[s0, s1, s2, s3, s4, s5, s6, s7, s8, s9, s10, .val (.ref ad1), .unset, .unset, .unset, .unset, .unset, .unset, .unset, .unset, .unset, .unset, .unset, .unset, .unset] [])) _
  exact k
set_option maxRecDepth 65536 in
set_option maxHeartbeats 40000000 in
theorem seg_B {p : Program} {l : Launch} {e : Env} {s : State} {m : MethodId} {args : Array Value} {below : List Frame} {meth : Method} {c : Code} {T0 : State} {locs : List Loc} {Z : State} {a0 : Array Value} {h0 : Heap} {n0 : Nat} (pa : Int64) (pp pd : Int32) (pw : Addr) (kp : ClassId) (s3 s4 s6 s7 s8 s9 s10 : Slot) (hx : p.tables.exec = Jvm.exec) (hZ : Z.Warmed39 s.vm) (hw : ∀ d ∈ tables_1, d.before a0 Z = true) (hby : c.code = code) (hml : c.maxLocals = 25) (hown : s.vm.findClass "com/example/kontrakt/kontrakt/input/NumeralsCountPinLaw" = some m.cls)  (O0 : Old Z n0 h0) (P0 : Arv Z h0 pw kp .long (19 : Int32) own_pwv (.long (0 : Int64)))
    (X0 : Stand p l e room_1 s m args below meth c T0 locs 1 19) (e0 : T0.heap = h0) (N0 : Fr n0 locs) (Z0 : n0 ≤ h0.size) : ∃ (T' : State) (h' : Heap) (locs' : List Loc) (tc : Addr) (kt : ClassId), Stand p l e room_1 s m args below meth c T' locs' 2 39 ∧ T'.heap = h' ∧ Fr n0 locs' ∧ n0 ≤ h'.size ∧ Old Z n0 h' ∧ Arv Z h' pw kp .long (19 : Int32) own_pwv (.long (0 : Int64)) ∧ Arv Z h' tc kt .char (20 : Int32) ((own_ts (sb_v pa pp pd) (sb_top pa pp pd) (sb_n pa pp pd)).map Value.int) (.int (0 : Int32)) ∧ n0 ≤ tc ∧ pw ≠ tc ∧ ∀ target, Steps p.tables e below (T'.setTop (mkF m 658 #[.val (.long pa), .second, .val (.int pp), s3, s4, .val (.int pd), s6, s7, s8, s9, s10, .val (.ref pw), .val (.long (sb_v pa pp pd)), .second, .val (.int (sb_n pa pp pd)), .val (.int (sb_top pa pp pd)), .val (.ref tc), .unset, .unset, .unset, .unset, .unset, .unset, .unset, .unset] [])) target → Steps p.tables e below (T0.setTop (mkF m 278 #[.val (.long pa), .second, .val (.int pp), s3, s4, .val (.int pd), s6, s7, s8, s9, s10, .val (.ref pw), .unset, .unset, .unset, .unset, .unset, .unset, .unset, .unset, .unset, .unset, .unset, .unset, .unset] [])) target := by
  obtain ⟨T1, h1, kA1, X1, e1, E1, A1, st1⟩ := newP X0 hx hZ (hw _ (List.mem_of_getElem? (i := 23) rfl)) e0 (g := (mkF m 306 #[.val (.long pa), .second, .val (.int pp), s3, s4, .val (.int pd), s6, s7, s8, s9, s10, .val (.ref pw), .val (.long (sb_v pa pp pd)), .second, .val (.int (sb_n pa pp pd)), .val (.int (sb_top pa pp pd)), .unset, .unset, .unset, .unset, .unset, .unset, .unset, .unset, .unset] [(.int (20 : Int32))])) rfl (hb hby at_306) rfl (by decide : ¬ ((20 : Int32) < (0 : Int32))) (cap := 20) (by decide : (20 : Int32).toNatClampNeg ≤ 20) (by decide) (by decide) (by decide)
  obtain ⟨ad1, g1⟩ : ∃ z, z = (h0).size := ⟨_, rfl⟩
  rw [← g1] at A1 st1
  have ne_pw_ad1 : pw ≠ ad1 := Nat.ne_of_lt (Nat.lt_of_lt_of_le (P0.lt) (Nat.le_of_eq g1.symm))
  have q2 : Old Z n0 h1 := (O0.ext E1)
  have q3 : Arv Z h1 pw kp .long (19 : Int32) own_pwv (.long (0 : Int64)) := (P0.ext E1)
  have V1 : Arv Z h1 ad1 kA1 .char (20 : Int32) [(.int (0 : Int32)), (.int (0 : Int32)), (.int (0 : Int32)), (.int (0 : Int32)), (.int (0 : Int32)), (.int (0 : Int32)), (.int (0 : Int32)), (.int (0 : Int32)), (.int (0 : Int32)), (.int (0 : Int32)), (.int (0 : Int32)), (.int (0 : Int32)), (.int (0 : Int32)), (.int (0 : Int32)), (.int (0 : Int32)), (.int (0 : Int32)), (.int (0 : Int32)), (.int (0 : Int32)), (.int (0 : Int32)), (.int (0 : Int32))] (.int (0 : Int32)) := (Arv.new A1 (by decide : ¬ ((20 : Int32) < (0 : Int32)))).pad (pad_rep [] (.int (0 : Int32)) 20)
  have Z1 : n0 ≤ h1.size := Nat.le_trans Z0 E1.1
  have gn1 : n0 ≤ ad1 := Nat.le_trans Z0 (Nat.le_of_eq g1.symm)
  obtain ⟨_, _, ⟨T4, L4, k4, n4⟩, -, X4, ⟨Lc4, hQ4, l4, y4, z4⟩, st4⟩ := Jvm.LawKit.callS X1 hx (y := (⟨"com/example/kontrakt/kontrakt/input/NumeralsCountPinLaw", "dig", "(JIII[J)C"⟩ : MethodName)) hown (mvT hZ (hw _ (List.mem_of_getElem? (i := 24) rfl))) (mvT hZ (hw _ (List.mem_of_getElem? (i := 25) rfl))) (mvT hZ (hw _ (List.mem_of_getElem? (i := 26) rfl))) (mvT hZ (hw _ (List.mem_of_getElem? (i := 27) rfl))) (by decide) (backOf (W := 2) (rm_dig l Z a0 hw [] (sb_v pa pp pd) (sb_top pa pp pd) (sb_n pa pp pd) (19 : Int32) pw kp (h1) n0 Z1 q3 (by decide) (by decide)) hZ (hw _ (List.mem_of_getElem? (i := 27) rfl)) (hw _ (List.mem_of_getElem? (i := 26) rfl)) (by decide) (by decide)) (g := (mkF m 323 #[.val (.long pa), .second, .val (.int pp), s3, s4, .val (.int pd), s6, s7, s8, s9, s10, .val (.ref pw), .val (.long (sb_v pa pp pd)), .second, .val (.int (sb_n pa pp pd)), .val (.int (sb_top pa pp pd)), .val (.ref ad1), .unset, .unset, .unset, .unset, .unset, .unset, .unset, .unset] [(.ref pw), (.int (19 : Int32)), (.int (sb_n pa pp pd)), (.int (sb_top pa pp pd)), (.long (sb_v pa pp pd)), (.int (0 : Int32)), (.ref ad1)])) rfl (by rw [hml]; rfl) (argsL := [(.long (sb_v pa pp pd)), (.int (sb_top pa pp pd)), (.int (sb_n pa pp pd)), (.int (19 : Int32)), (.ref pw)]) (rest := [(.int (0 : Int32)), (.ref ad1)]) (lenOf pd_5 rfl) rfl (by show 2 * 0 + _ ≤ _; exact Nat.le_of_eq rfl) (hb hby at_323) (fun _ _ => ⟨rfl, e1, (by decide : 2 + 0 ≤ _), (by decide : 39 + 0 ≤ _)⟩)
  dsimp only [Pt.U, Pt.locs, Pt.cells, Pt.slots] at X4 l4 y4 z4 st4 hQ4
  rw [l4, y4, z4] at X4
  replace X4 : Stand _ _ _ _ _ _ _ _ _ _ _ _ 2 39 := X4
  obtain ⟨vq4, N4, e4⟩ := hQ4
  rw [vq4] at st4
  have Nn4 := Fr.app N0 N4
  obtain ⟨c5, A5, q5, S5, M5, H5, U5⟩ := id V1
  obtain ⟨T5, h5, X5, e5, W5, st5⟩ := stC X4 hx hZ e4 A5 (j := (0 : Int32)) (inb_of S5 ⟨(by decide : ¬ ((0 : Int32) < (0 : Int32))), (by decide : (0 : Int32) < (20 : Int32))⟩) (g := (mkF m 326 #[.val (.long pa), .second, .val (.int pp), s3, s4, .val (.int pd), s6, s7, s8, s9, s10, .val (.ref pw), .val (.long (sb_v pa pp pd)), .second, .val (.int (sb_n pa pp pd)), .val (.int (sb_top pa pp pd)), .val (.ref ad1), .unset, .unset, .unset, .unset, .unset, .unset, .unset, .unset] [(.int (dig_res (sb_v pa pp pd) (sb_top pa pp pd) (sb_n pa pp pd) (19 : Int32))), (.int (0 : Int32)), (.ref ad1)])) rfl rfl (hb hby at_326)
  have Nn5 := Fr.snoc X5 Nn4 gn1
  have q6 : Old Z n0 h5 := (q2.wr W5 gn1)
  have q7 : Arv Z h5 pw kp .long (19 : Int32) own_pwv (.long (0 : Int64)) := (q3.other W5 ne_pw_ad1)
  have V5 : Arv Z h5 ad1 kA1 .char (20 : Int32) [(.int (nar .char (dig_res (sb_v pa pp pd) (sb_top pa pp pd) (sb_n pa pp pd) (19 : Int32)))), (.int (0 : Int32)), (.int (0 : Int32)), (.int (0 : Int32)), (.int (0 : Int32)), (.int (0 : Int32)), (.int (0 : Int32)), (.int (0 : Int32)), (.int (0 : Int32)), (.int (0 : Int32)), (.int (0 : Int32)), (.int (0 : Int32)), (.int (0 : Int32)), (.int (0 : Int32)), (.int (0 : Int32)), (.int (0 : Int32)), (.int (0 : Int32)), (.int (0 : Int32)), (.int (0 : Int32)), (.int (0 : Int32))] (.int (0 : Int32)) := (Arv.set A5 q5 S5 M5 H5 U5 (fits_nar_char _) W5 0 rfl (Nat.le_of_ble_eq_true rfl))
  have Z5 : n0 ≤ h5.size := Nat.le_trans Z1 (Keep.of_wr W5).1
  obtain ⟨_, _, ⟨T8, L8, k8, n8⟩, -, X8, ⟨Lc8, hQ8, l8, y8, z8⟩, st8⟩ := Jvm.LawKit.callS X5 hx (y := (⟨"com/example/kontrakt/kontrakt/input/NumeralsCountPinLaw", "dig", "(JIII[J)C"⟩ : MethodName)) hown (mvT hZ (hw _ (List.mem_of_getElem? (i := 24) rfl))) (mvT hZ (hw _ (List.mem_of_getElem? (i := 25) rfl))) (mvT hZ (hw _ (List.mem_of_getElem? (i := 26) rfl))) (mvT hZ (hw _ (List.mem_of_getElem? (i := 27) rfl))) (by decide) (backOf (W := 2) (rm_dig l Z a0 hw [] (sb_v pa pp pd) (sb_top pa pp pd) (sb_n pa pp pd) (18 : Int32) pw kp (h5) n0 Z5 q7 (by decide) (by decide)) hZ (hw _ (List.mem_of_getElem? (i := 27) rfl)) (hw _ (List.mem_of_getElem? (i := 26) rfl)) (by decide) (by decide)) (g := (mkF m 340 #[.val (.long pa), .second, .val (.int pp), s3, s4, .val (.int pd), s6, s7, s8, s9, s10, .val (.ref pw), .val (.long (sb_v pa pp pd)), .second, .val (.int (sb_n pa pp pd)), .val (.int (sb_top pa pp pd)), .val (.ref ad1), .unset, .unset, .unset, .unset, .unset, .unset, .unset, .unset] [(.ref pw), (.int (18 : Int32)), (.int (sb_n pa pp pd)), (.int (sb_top pa pp pd)), (.long (sb_v pa pp pd)), (.int (1 : Int32)), (.ref ad1)])) rfl (by rw [hml]; rfl) (argsL := [(.long (sb_v pa pp pd)), (.int (sb_top pa pp pd)), (.int (sb_n pa pp pd)), (.int (18 : Int32)), (.ref pw)]) (rest := [(.int (1 : Int32)), (.ref ad1)]) (lenOf pd_5 rfl) rfl (by show 2 * 0 + _ ≤ _; exact Nat.le_of_eq rfl) (hb hby at_340) (fun _ _ => ⟨rfl, e5, (by decide : 2 + 0 ≤ _), (by decide : 39 + 0 ≤ _)⟩)
  dsimp only [Pt.U, Pt.locs, Pt.cells, Pt.slots] at X8 l8 y8 z8 st8 hQ8
  rw [l8, y8, z8] at X8
  replace X8 : Stand _ _ _ _ _ _ _ _ _ _ _ _ 2 39 := X8
  obtain ⟨vq8, N8, e8⟩ := hQ8
  rw [vq8] at st8
  have Nn8 := Fr.app Nn5 N8
  obtain ⟨c9, A9, q9, S9, M9, H9, U9⟩ := id V5
  obtain ⟨T9, h9, X9, e9, W9, st9⟩ := stC X8 hx hZ e8 A9 (j := (1 : Int32)) (inb_of S9 ⟨(by decide : ¬ ((1 : Int32) < (0 : Int32))), (by decide : (1 : Int32) < (20 : Int32))⟩) (g := (mkF m 343 #[.val (.long pa), .second, .val (.int pp), s3, s4, .val (.int pd), s6, s7, s8, s9, s10, .val (.ref pw), .val (.long (sb_v pa pp pd)), .second, .val (.int (sb_n pa pp pd)), .val (.int (sb_top pa pp pd)), .val (.ref ad1), .unset, .unset, .unset, .unset, .unset, .unset, .unset, .unset] [(.int (dig_res (sb_v pa pp pd) (sb_top pa pp pd) (sb_n pa pp pd) (18 : Int32))), (.int (1 : Int32)), (.ref ad1)])) rfl rfl (hb hby at_343)
  have Nn9 := Fr.snoc X9 Nn8 gn1
  have q10 : Old Z n0 h9 := (q6.wr W9 gn1)
  have q11 : Arv Z h9 pw kp .long (19 : Int32) own_pwv (.long (0 : Int64)) := (q7.other W9 ne_pw_ad1)
  have V9 : Arv Z h9 ad1 kA1 .char (20 : Int32) [(.int (nar .char (dig_res (sb_v pa pp pd) (sb_top pa pp pd) (sb_n pa pp pd) (19 : Int32)))), (.int (nar .char (dig_res (sb_v pa pp pd) (sb_top pa pp pd) (sb_n pa pp pd) (18 : Int32)))), (.int (0 : Int32)), (.int (0 : Int32)), (.int (0 : Int32)), (.int (0 : Int32)), (.int (0 : Int32)), (.int (0 : Int32)), (.int (0 : Int32)), (.int (0 : Int32)), (.int (0 : Int32)), (.int (0 : Int32)), (.int (0 : Int32)), (.int (0 : Int32)), (.int (0 : Int32)), (.int (0 : Int32)), (.int (0 : Int32)), (.int (0 : Int32)), (.int (0 : Int32)), (.int (0 : Int32))] (.int (0 : Int32)) := (Arv.set A9 q9 S9 M9 H9 U9 (fits_nar_char _) W9 1 rfl (Nat.le_of_ble_eq_true rfl))
  have Z9 : n0 ≤ h9.size := Nat.le_trans Z5 (Keep.of_wr W9).1
  obtain ⟨_, _, ⟨T12, L12, k12, n12⟩, -, X12, ⟨Lc12, hQ12, l12, y12, z12⟩, st12⟩ := Jvm.LawKit.callS X9 hx (y := (⟨"com/example/kontrakt/kontrakt/input/NumeralsCountPinLaw", "dig", "(JIII[J)C"⟩ : MethodName)) hown (mvT hZ (hw _ (List.mem_of_getElem? (i := 24) rfl))) (mvT hZ (hw _ (List.mem_of_getElem? (i := 25) rfl))) (mvT hZ (hw _ (List.mem_of_getElem? (i := 26) rfl))) (mvT hZ (hw _ (List.mem_of_getElem? (i := 27) rfl))) (by decide) (backOf (W := 2) (rm_dig l Z a0 hw [] (sb_v pa pp pd) (sb_top pa pp pd) (sb_n pa pp pd) (17 : Int32) pw kp (h9) n0 Z9 q11 (by decide) (by decide)) hZ (hw _ (List.mem_of_getElem? (i := 27) rfl)) (hw _ (List.mem_of_getElem? (i := 26) rfl)) (by decide) (by decide)) (g := (mkF m 357 #[.val (.long pa), .second, .val (.int pp), s3, s4, .val (.int pd), s6, s7, s8, s9, s10, .val (.ref pw), .val (.long (sb_v pa pp pd)), .second, .val (.int (sb_n pa pp pd)), .val (.int (sb_top pa pp pd)), .val (.ref ad1), .unset, .unset, .unset, .unset, .unset, .unset, .unset, .unset] [(.ref pw), (.int (17 : Int32)), (.int (sb_n pa pp pd)), (.int (sb_top pa pp pd)), (.long (sb_v pa pp pd)), (.int (2 : Int32)), (.ref ad1)])) rfl (by rw [hml]; rfl) (argsL := [(.long (sb_v pa pp pd)), (.int (sb_top pa pp pd)), (.int (sb_n pa pp pd)), (.int (17 : Int32)), (.ref pw)]) (rest := [(.int (2 : Int32)), (.ref ad1)]) (lenOf pd_5 rfl) rfl (by show 2 * 0 + _ ≤ _; exact Nat.le_of_eq rfl) (hb hby at_357) (fun _ _ => ⟨rfl, e9, (by decide : 2 + 0 ≤ _), (by decide : 39 + 0 ≤ _)⟩)
  dsimp only [Pt.U, Pt.locs, Pt.cells, Pt.slots] at X12 l12 y12 z12 st12 hQ12
  rw [l12, y12, z12] at X12
  replace X12 : Stand _ _ _ _ _ _ _ _ _ _ _ _ 2 39 := X12
  obtain ⟨vq12, N12, e12⟩ := hQ12
  rw [vq12] at st12
  have Nn12 := Fr.app Nn9 N12
  obtain ⟨c13, A13, q13, S13, M13, H13, U13⟩ := id V9
  obtain ⟨T13, h13, X13, e13, W13, st13⟩ := stC X12 hx hZ e12 A13 (j := (2 : Int32)) (inb_of S13 ⟨(by decide : ¬ ((2 : Int32) < (0 : Int32))), (by decide : (2 : Int32) < (20 : Int32))⟩) (g := (mkF m 360 #[.val (.long pa), .second, .val (.int pp), s3, s4, .val (.int pd), s6, s7, s8, s9, s10, .val (.ref pw), .val (.long (sb_v pa pp pd)), .second, .val (.int (sb_n pa pp pd)), .val (.int (sb_top pa pp pd)), .val (.ref ad1), .unset, .unset, .unset, .unset, .unset, .unset, .unset, .unset] [(.int (dig_res (sb_v pa pp pd) (sb_top pa pp pd) (sb_n pa pp pd) (17 : Int32))), (.int (2 : Int32)), (.ref ad1)])) rfl rfl (hb hby at_360)
  have Nn13 := Fr.snoc X13 Nn12 gn1
  have q14 : Old Z n0 h13 := (q10.wr W13 gn1)
  have q15 : Arv Z h13 pw kp .long (19 : Int32) own_pwv (.long (0 : Int64)) := (q11.other W13 ne_pw_ad1)
  have V13 : Arv Z h13 ad1 kA1 .char (20 : Int32) [(.int (nar .char (dig_res (sb_v pa pp pd) (sb_top pa pp pd) (sb_n pa pp pd) (19 : Int32)))), (.int (nar .char (dig_res (sb_v pa pp pd) (sb_top pa pp pd) (sb_n pa pp pd) (18 : Int32)))), (.int (nar .char (dig_res (sb_v pa pp pd) (sb_top pa pp pd) (sb_n pa pp pd) (17 : Int32)))), (.int (0 : Int32)), (.int (0 : Int32)), (.int (0 : Int32)), (.int (0 : Int32)), (.int (0 : Int32)), (.int (0 : Int32)), (.int (0 : Int32)), (.int (0 : Int32)), (.int (0 : Int32)), (.int (0 : Int32)), (.int (0 : Int32)), (.int (0 : Int32)), (.int (0 : Int32)), (.int (0 : Int32)), (.int (0 : Int32)), (.int (0 : Int32)), (.int (0 : Int32))] (.int (0 : Int32)) := (Arv.set A13 q13 S13 M13 H13 U13 (fits_nar_char _) W13 2 rfl (Nat.le_of_ble_eq_true rfl))
  have Z13 : n0 ≤ h13.size := Nat.le_trans Z9 (Keep.of_wr W13).1
  obtain ⟨_, _, ⟨T16, L16, k16, n16⟩, -, X16, ⟨Lc16, hQ16, l16, y16, z16⟩, st16⟩ := Jvm.LawKit.callS X13 hx (y := (⟨"com/example/kontrakt/kontrakt/input/NumeralsCountPinLaw", "dig", "(JIII[J)C"⟩ : MethodName)) hown (mvT hZ (hw _ (List.mem_of_getElem? (i := 24) rfl))) (mvT hZ (hw _ (List.mem_of_getElem? (i := 25) rfl))) (mvT hZ (hw _ (List.mem_of_getElem? (i := 26) rfl))) (mvT hZ (hw _ (List.mem_of_getElem? (i := 27) rfl))) (by decide) (backOf (W := 2) (rm_dig l Z a0 hw [] (sb_v pa pp pd) (sb_top pa pp pd) (sb_n pa pp pd) (16 : Int32) pw kp (h13) n0 Z13 q15 (by decide) (by decide)) hZ (hw _ (List.mem_of_getElem? (i := 27) rfl)) (hw _ (List.mem_of_getElem? (i := 26) rfl)) (by decide) (by decide)) (g := (mkF m 374 #[.val (.long pa), .second, .val (.int pp), s3, s4, .val (.int pd), s6, s7, s8, s9, s10, .val (.ref pw), .val (.long (sb_v pa pp pd)), .second, .val (.int (sb_n pa pp pd)), .val (.int (sb_top pa pp pd)), .val (.ref ad1), .unset, .unset, .unset, .unset, .unset, .unset, .unset, .unset] [(.ref pw), (.int (16 : Int32)), (.int (sb_n pa pp pd)), (.int (sb_top pa pp pd)), (.long (sb_v pa pp pd)), (.int (3 : Int32)), (.ref ad1)])) rfl (by rw [hml]; rfl) (argsL := [(.long (sb_v pa pp pd)), (.int (sb_top pa pp pd)), (.int (sb_n pa pp pd)), (.int (16 : Int32)), (.ref pw)]) (rest := [(.int (3 : Int32)), (.ref ad1)]) (lenOf pd_5 rfl) rfl (by show 2 * 0 + _ ≤ _; exact Nat.le_of_eq rfl) (hb hby at_374) (fun _ _ => ⟨rfl, e13, (by decide : 2 + 0 ≤ _), (by decide : 39 + 0 ≤ _)⟩)
  dsimp only [Pt.U, Pt.locs, Pt.cells, Pt.slots] at X16 l16 y16 z16 st16 hQ16
  rw [l16, y16, z16] at X16
  replace X16 : Stand _ _ _ _ _ _ _ _ _ _ _ _ 2 39 := X16
  obtain ⟨vq16, N16, e16⟩ := hQ16
  rw [vq16] at st16
  have Nn16 := Fr.app Nn13 N16
  obtain ⟨c17, A17, q17, S17, M17, H17, U17⟩ := id V13
  obtain ⟨T17, h17, X17, e17, W17, st17⟩ := stC X16 hx hZ e16 A17 (j := (3 : Int32)) (inb_of S17 ⟨(by decide : ¬ ((3 : Int32) < (0 : Int32))), (by decide : (3 : Int32) < (20 : Int32))⟩) (g := (mkF m 377 #[.val (.long pa), .second, .val (.int pp), s3, s4, .val (.int pd), s6, s7, s8, s9, s10, .val (.ref pw), .val (.long (sb_v pa pp pd)), .second, .val (.int (sb_n pa pp pd)), .val (.int (sb_top pa pp pd)), .val (.ref ad1), .unset, .unset, .unset, .unset, .unset, .unset, .unset, .unset] [(.int (dig_res (sb_v pa pp pd) (sb_top pa pp pd) (sb_n pa pp pd) (16 : Int32))), (.int (3 : Int32)), (.ref ad1)])) rfl rfl (hb hby at_377)
  have Nn17 := Fr.snoc X17 Nn16 gn1
  have q18 : Old Z n0 h17 := (q14.wr W17 gn1)
  have q19 : Arv Z h17 pw kp .long (19 : Int32) own_pwv (.long (0 : Int64)) := (q15.other W17 ne_pw_ad1)
  have V17 : Arv Z h17 ad1 kA1 .char (20 : Int32) [(.int (nar .char (dig_res (sb_v pa pp pd) (sb_top pa pp pd) (sb_n pa pp pd) (19 : Int32)))), (.int (nar .char (dig_res (sb_v pa pp pd) (sb_top pa pp pd) (sb_n pa pp pd) (18 : Int32)))), (.int (nar .char (dig_res (sb_v pa pp pd) (sb_top pa pp pd) (sb_n pa pp pd) (17 : Int32)))), (.int (nar .char (dig_res (sb_v pa pp pd) (sb_top pa pp pd) (sb_n pa pp pd) (16 : Int32)))), (.int (0 : Int32)), (.int (0 : Int32)), (.int (0 : Int32)), (.int (0 : Int32)), (.int (0 : Int32)), (.int (0 : Int32)), (.int (0 : Int32)), (.int (0 : Int32)), (.int (0 : Int32)), (.int (0 : Int32)), (.int (0 : Int32)), (.int (0 : Int32)), (.int (0 : Int32)), (.int (0 : Int32)), (.int (0 : Int32)), (.int (0 : Int32))] (.int (0 : Int32)) := (Arv.set A17 q17 S17 M17 H17 U17 (fits_nar_char _) W17 3 rfl (Nat.le_of_ble_eq_true rfl))
  have Z17 : n0 ≤ h17.size := Nat.le_trans Z13 (Keep.of_wr W17).1
  obtain ⟨_, _, ⟨T20, L20, k20, n20⟩, -, X20, ⟨Lc20, hQ20, l20, y20, z20⟩, st20⟩ := Jvm.LawKit.callS X17 hx (y := (⟨"com/example/kontrakt/kontrakt/input/NumeralsCountPinLaw", "dig", "(JIII[J)C"⟩ : MethodName)) hown (mvT hZ (hw _ (List.mem_of_getElem? (i := 24) rfl))) (mvT hZ (hw _ (List.mem_of_getElem? (i := 25) rfl))) (mvT hZ (hw _ (List.mem_of_getElem? (i := 26) rfl))) (mvT hZ (hw _ (List.mem_of_getElem? (i := 27) rfl))) (by decide) (backOf (W := 2) (rm_dig l Z a0 hw [] (sb_v pa pp pd) (sb_top pa pp pd) (sb_n pa pp pd) (15 : Int32) pw kp (h17) n0 Z17 q19 (by decide) (by decide)) hZ (hw _ (List.mem_of_getElem? (i := 27) rfl)) (hw _ (List.mem_of_getElem? (i := 26) rfl)) (by decide) (by decide)) (g := (mkF m 391 #[.val (.long pa), .second, .val (.int pp), s3, s4, .val (.int pd), s6, s7, s8, s9, s10, .val (.ref pw), .val (.long (sb_v pa pp pd)), .second, .val (.int (sb_n pa pp pd)), .val (.int (sb_top pa pp pd)), .val (.ref ad1), .unset, .unset, .unset, .unset, .unset, .unset, .unset, .unset] [(.ref pw), (.int (15 : Int32)), (.int (sb_n pa pp pd)), (.int (sb_top pa pp pd)), (.long (sb_v pa pp pd)), (.int (4 : Int32)), (.ref ad1)])) rfl (by rw [hml]; rfl) (argsL := [(.long (sb_v pa pp pd)), (.int (sb_top pa pp pd)), (.int (sb_n pa pp pd)), (.int (15 : Int32)), (.ref pw)]) (rest := [(.int (4 : Int32)), (.ref ad1)]) (lenOf pd_5 rfl) rfl (by show 2 * 0 + _ ≤ _; exact Nat.le_of_eq rfl) (hb hby at_391) (fun _ _ => ⟨rfl, e17, (by decide : 2 + 0 ≤ _), (by decide : 39 + 0 ≤ _)⟩)
  dsimp only [Pt.U, Pt.locs, Pt.cells, Pt.slots] at X20 l20 y20 z20 st20 hQ20
  rw [l20, y20, z20] at X20
  replace X20 : Stand _ _ _ _ _ _ _ _ _ _ _ _ 2 39 := X20
  obtain ⟨vq20, N20, e20⟩ := hQ20
  rw [vq20] at st20
  have Nn20 := Fr.app Nn17 N20
  obtain ⟨c21, A21, q21, S21, M21, H21, U21⟩ := id V17
  obtain ⟨T21, h21, X21, e21, W21, st21⟩ := stC X20 hx hZ e20 A21 (j := (4 : Int32)) (inb_of S21 ⟨(by decide : ¬ ((4 : Int32) < (0 : Int32))), (by decide : (4 : Int32) < (20 : Int32))⟩) (g := (mkF m 394 #[.val (.long pa), .second, .val (.int pp), s3, s4, .val (.int pd), s6, s7, s8, s9, s10, .val (.ref pw), .val (.long (sb_v pa pp pd)), .second, .val (.int (sb_n pa pp pd)), .val (.int (sb_top pa pp pd)), .val (.ref ad1), .unset, .unset, .unset, .unset, .unset, .unset, .unset, .unset] [(.int (dig_res (sb_v pa pp pd) (sb_top pa pp pd) (sb_n pa pp pd) (15 : Int32))), (.int (4 : Int32)), (.ref ad1)])) rfl rfl (hb hby at_394)
  have Nn21 := Fr.snoc X21 Nn20 gn1
  have q22 : Old Z n0 h21 := (q18.wr W21 gn1)
  have q23 : Arv Z h21 pw kp .long (19 : Int32) own_pwv (.long (0 : Int64)) := (q19.other W21 ne_pw_ad1)
  have V21 : Arv Z h21 ad1 kA1 .char (20 : Int32) [(.int (nar .char (dig_res (sb_v pa pp pd) (sb_top pa pp pd) (sb_n pa pp pd) (19 : Int32)))), (.int (nar .char (dig_res (sb_v pa pp pd) (sb_top pa pp pd) (sb_n pa pp pd) (18 : Int32)))), (.int (nar .char (dig_res (sb_v pa pp pd) (sb_top pa pp pd) (sb_n pa pp pd) (17 : Int32)))), (.int (nar .char (dig_res (sb_v pa pp pd) (sb_top pa pp pd) (sb_n pa pp pd) (16 : Int32)))), (.int (nar .char (dig_res (sb_v pa pp pd) (sb_top pa pp pd) (sb_n pa pp pd) (15 : Int32)))), (.int (0 : Int32)), (.int (0 : Int32)), (.int (0 : Int32)), (.int (0 : Int32)), (.int (0 : Int32)), (.int (0 : Int32)), (.int (0 : Int32)), (.int (0 : Int32)), (.int (0 : Int32)), (.int (0 : Int32)), (.int (0 : Int32)), (.int (0 : Int32)), (.int (0 : Int32)), (.int (0 : Int32)), (.int (0 : Int32))] (.int (0 : Int32)) := (Arv.set A21 q21 S21 M21 H21 U21 (fits_nar_char _) W21 4 rfl (Nat.le_of_ble_eq_true rfl))
  have Z21 : n0 ≤ h21.size := Nat.le_trans Z17 (Keep.of_wr W21).1
  obtain ⟨_, _, ⟨T24, L24, k24, n24⟩, -, X24, ⟨Lc24, hQ24, l24, y24, z24⟩, st24⟩ := Jvm.LawKit.callS X21 hx (y := (⟨"com/example/kontrakt/kontrakt/input/NumeralsCountPinLaw", "dig", "(JIII[J)C"⟩ : MethodName)) hown (mvT hZ (hw _ (List.mem_of_getElem? (i := 24) rfl))) (mvT hZ (hw _ (List.mem_of_getElem? (i := 25) rfl))) (mvT hZ (hw _ (List.mem_of_getElem? (i := 26) rfl))) (mvT hZ (hw _ (List.mem_of_getElem? (i := 27) rfl))) (by decide) (backOf (W := 2) (rm_dig l Z a0 hw [] (sb_v pa pp pd) (sb_top pa pp pd) (sb_n pa pp pd) (14 : Int32) pw kp (h21) n0 Z21 q23 (by decide) (by decide)) hZ (hw _ (List.mem_of_getElem? (i := 27) rfl)) (hw _ (List.mem_of_getElem? (i := 26) rfl)) (by decide) (by decide)) (g := (mkF m 408 #[.val (.long pa), .second, .val (.int pp), s3, s4, .val (.int pd), s6, s7, s8, s9, s10, .val (.ref pw), .val (.long (sb_v pa pp pd)), .second, .val (.int (sb_n pa pp pd)), .val (.int (sb_top pa pp pd)), .val (.ref ad1), .unset, .unset, .unset, .unset, .unset, .unset, .unset, .unset] [(.ref pw), (.int (14 : Int32)), (.int (sb_n pa pp pd)), (.int (sb_top pa pp pd)), (.long (sb_v pa pp pd)), (.int (5 : Int32)), (.ref ad1)])) rfl (by rw [hml]; rfl) (argsL := [(.long (sb_v pa pp pd)), (.int (sb_top pa pp pd)), (.int (sb_n pa pp pd)), (.int (14 : Int32)), (.ref pw)]) (rest := [(.int (5 : Int32)), (.ref ad1)]) (lenOf pd_5 rfl) rfl (by show 2 * 0 + _ ≤ _; exact Nat.le_of_eq rfl) (hb hby at_408) (fun _ _ => ⟨rfl, e21, (by decide : 2 + 0 ≤ _), (by decide : 39 + 0 ≤ _)⟩)
  dsimp only [Pt.U, Pt.locs, Pt.cells, Pt.slots] at X24 l24 y24 z24 st24 hQ24
  rw [l24, y24, z24] at X24
  replace X24 : Stand _ _ _ _ _ _ _ _ _ _ _ _ 2 39 := X24
  obtain ⟨vq24, N24, e24⟩ := hQ24
  rw [vq24] at st24
  have Nn24 := Fr.app Nn21 N24
  obtain ⟨c25, A25, q25, S25, M25, H25, U25⟩ := id V21
  obtain ⟨T25, h25, X25, e25, W25, st25⟩ := stC X24 hx hZ e24 A25 (j := (5 : Int32)) (inb_of S25 ⟨(by decide : ¬ ((5 : Int32) < (0 : Int32))), (by decide : (5 : Int32) < (20 : Int32))⟩) (g := (mkF m 411 #[.val (.long pa), .second, .val (.int pp), s3, s4, .val (.int pd), s6, s7, s8, s9, s10, .val (.ref pw), .val (.long (sb_v pa pp pd)), .second, .val (.int (sb_n pa pp pd)), .val (.int (sb_top pa pp pd)), .val (.ref ad1), .unset, .unset, .unset, .unset, .unset, .unset, .unset, .unset] [(.int (dig_res (sb_v pa pp pd) (sb_top pa pp pd) (sb_n pa pp pd) (14 : Int32))), (.int (5 : Int32)), (.ref ad1)])) rfl rfl (hb hby at_411)
  have Nn25 := Fr.snoc X25 Nn24 gn1
  have q26 : Old Z n0 h25 := (q22.wr W25 gn1)
  have q27 : Arv Z h25 pw kp .long (19 : Int32) own_pwv (.long (0 : Int64)) := (q23.other W25 ne_pw_ad1)
  have V25 : Arv Z h25 ad1 kA1 .char (20 : Int32) [(.int (nar .char (dig_res (sb_v pa pp pd) (sb_top pa pp pd) (sb_n pa pp pd) (19 : Int32)))), (.int (nar .char (dig_res (sb_v pa pp pd) (sb_top pa pp pd) (sb_n pa pp pd) (18 : Int32)))), (.int (nar .char (dig_res (sb_v pa pp pd) (sb_top pa pp pd) (sb_n pa pp pd) (17 : Int32)))), (.int (nar .char (dig_res (sb_v pa pp pd) (sb_top pa pp pd) (sb_n pa pp pd) (16 : Int32)))), (.int (nar .char (dig_res (sb_v pa pp pd) (sb_top pa pp pd) (sb_n pa pp pd) (15 : Int32)))), (.int (nar .char (dig_res (sb_v pa pp pd) (sb_top pa pp pd) (sb_n pa pp pd) (14 : Int32)))), (.int (0 : Int32)), (.int (0 : Int32)), (.int (0 : Int32)), (.int (0 : Int32)), (.int (0 : Int32)), (.int (0 : Int32)), (.int (0 : Int32)), (.int (0 : Int32)), (.int (0 : Int32)), (.int (0 : Int32)), (.int (0 : Int32)), (.int (0 : Int32)), (.int (0 : Int32)), (.int (0 : Int32))] (.int (0 : Int32)) := (Arv.set A25 q25 S25 M25 H25 U25 (fits_nar_char _) W25 5 rfl (Nat.le_of_ble_eq_true rfl))
  have Z25 : n0 ≤ h25.size := Nat.le_trans Z21 (Keep.of_wr W25).1
  obtain ⟨_, _, ⟨T28, L28, k28, n28⟩, -, X28, ⟨Lc28, hQ28, l28, y28, z28⟩, st28⟩ := Jvm.LawKit.callS X25 hx (y := (⟨"com/example/kontrakt/kontrakt/input/NumeralsCountPinLaw", "dig", "(JIII[J)C"⟩ : MethodName)) hown (mvT hZ (hw _ (List.mem_of_getElem? (i := 24) rfl))) (mvT hZ (hw _ (List.mem_of_getElem? (i := 25) rfl))) (mvT hZ (hw _ (List.mem_of_getElem? (i := 26) rfl))) (mvT hZ (hw _ (List.mem_of_getElem? (i := 27) rfl))) (by decide) (backOf (W := 2) (rm_dig l Z a0 hw [] (sb_v pa pp pd) (sb_top pa pp pd) (sb_n pa pp pd) (13 : Int32) pw kp (h25) n0 Z25 q27 (by decide) (by decide)) hZ (hw _ (List.mem_of_getElem? (i := 27) rfl)) (hw _ (List.mem_of_getElem? (i := 26) rfl)) (by decide) (by decide)) (g := (mkF m 426 #[.val (.long pa), .second, .val (.int pp), s3, s4, .val (.int pd), s6, s7, s8, s9, s10, .val (.ref pw), .val (.long (sb_v pa pp pd)), .second, .val (.int (sb_n pa pp pd)), .val (.int (sb_top pa pp pd)), .val (.ref ad1), .unset, .unset, .unset, .unset, .unset, .unset, .unset, .unset] [(.ref pw), (.int (13 : Int32)), (.int (sb_n pa pp pd)), (.int (sb_top pa pp pd)), (.long (sb_v pa pp pd)), (.int (6 : Int32)), (.ref ad1)])) rfl (by rw [hml]; rfl) (argsL := [(.long (sb_v pa pp pd)), (.int (sb_top pa pp pd)), (.int (sb_n pa pp pd)), (.int (13 : Int32)), (.ref pw)]) (rest := [(.int (6 : Int32)), (.ref ad1)]) (lenOf pd_5 rfl) rfl (by show 2 * 0 + _ ≤ _; exact Nat.le_of_eq rfl) (hb hby at_426) (fun _ _ => ⟨rfl, e25, (by decide : 2 + 0 ≤ _), (by decide : 39 + 0 ≤ _)⟩)
  dsimp only [Pt.U, Pt.locs, Pt.cells, Pt.slots] at X28 l28 y28 z28 st28 hQ28
  rw [l28, y28, z28] at X28
  replace X28 : Stand _ _ _ _ _ _ _ _ _ _ _ _ 2 39 := X28
  obtain ⟨vq28, N28, e28⟩ := hQ28
  rw [vq28] at st28
  have Nn28 := Fr.app Nn25 N28
  obtain ⟨c29, A29, q29, S29, M29, H29, U29⟩ := id V25
  obtain ⟨T29, h29, X29, e29, W29, st29⟩ := stC X28 hx hZ e28 A29 (j := (6 : Int32)) (inb_of S29 ⟨(by decide : ¬ ((6 : Int32) < (0 : Int32))), (by decide : (6 : Int32) < (20 : Int32))⟩) (g := (mkF m 429 #[.val (.long pa), .second, .val (.int pp), s3, s4, .val (.int pd), s6, s7, s8, s9, s10, .val (.ref pw), .val (.long (sb_v pa pp pd)), .second, .val (.int (sb_n pa pp pd)), .val (.int (sb_top pa pp pd)), .val (.ref ad1), .unset, .unset, .unset, .unset, .unset, .unset, .unset, .unset] [(.int (dig_res (sb_v pa pp pd) (sb_top pa pp pd) (sb_n pa pp pd) (13 : Int32))), (.int (6 : Int32)), (.ref ad1)])) rfl rfl (hb hby at_429)
  have Nn29 := Fr.snoc X29 Nn28 gn1
  have q30 : Old Z n0 h29 := (q26.wr W29 gn1)
  have q31 : Arv Z h29 pw kp .long (19 : Int32) own_pwv (.long (0 : Int64)) := (q27.other W29 ne_pw_ad1)
  have V29 : Arv Z h29 ad1 kA1 .char (20 : Int32) [(.int (nar .char (dig_res (sb_v pa pp pd) (sb_top pa pp pd) (sb_n pa pp pd) (19 : Int32)))), (.int (nar .char (dig_res (sb_v pa pp pd) (sb_top pa pp pd) (sb_n pa pp pd) (18 : Int32)))), (.int (nar .char (dig_res (sb_v pa pp pd) (sb_top pa pp pd) (sb_n pa pp pd) (17 : Int32)))), (.int (nar .char (dig_res (sb_v pa pp pd) (sb_top pa pp pd) (sb_n pa pp pd) (16 : Int32)))), (.int (nar .char (dig_res (sb_v pa pp pd) (sb_top pa pp pd) (sb_n pa pp pd) (15 : Int32)))), (.int (nar .char (dig_res (sb_v pa pp pd) (sb_top pa pp pd) (sb_n pa pp pd) (14 : Int32)))), (.int (nar .char (dig_res (sb_v pa pp pd) (sb_top pa pp pd) (sb_n pa pp pd) (13 : Int32)))), (.int (0 : Int32)), (.int (0 : Int32)), (.int (0 : Int32)), (.int (0 : Int32)), (.int (0 : Int32)), (.int (0 : Int32)), (.int (0 : Int32)), (.int (0 : Int32)), (.int (0 : Int32)), (.int (0 : Int32)), (.int (0 : Int32)), (.int (0 : Int32)), (.int (0 : Int32))] (.int (0 : Int32)) := (Arv.set A29 q29 S29 M29 H29 U29 (fits_nar_char _) W29 6 rfl (Nat.le_of_ble_eq_true rfl))
  have Z29 : n0 ≤ h29.size := Nat.le_trans Z25 (Keep.of_wr W29).1
  obtain ⟨_, _, ⟨T32, L32, k32, n32⟩, -, X32, ⟨Lc32, hQ32, l32, y32, z32⟩, st32⟩ := Jvm.LawKit.callS X29 hx (y := (⟨"com/example/kontrakt/kontrakt/input/NumeralsCountPinLaw", "dig", "(JIII[J)C"⟩ : MethodName)) hown (mvT hZ (hw _ (List.mem_of_getElem? (i := 24) rfl))) (mvT hZ (hw _ (List.mem_of_getElem? (i := 25) rfl))) (mvT hZ (hw _ (List.mem_of_getElem? (i := 26) rfl))) (mvT hZ (hw _ (List.mem_of_getElem? (i := 27) rfl))) (by decide) (backOf (W := 2) (rm_dig l Z a0 hw [] (sb_v pa pp pd) (sb_top pa pp pd) (sb_n pa pp pd) (12 : Int32) pw kp (h29) n0 Z29 q31 (by decide) (by decide)) hZ (hw _ (List.mem_of_getElem? (i := 27) rfl)) (hw _ (List.mem_of_getElem? (i := 26) rfl)) (by decide) (by decide)) (g := (mkF m 444 #[.val (.long pa), .second, .val (.int pp), s3, s4, .val (.int pd), s6, s7, s8, s9, s10, .val (.ref pw), .val (.long (sb_v pa pp pd)), .second, .val (.int (sb_n pa pp pd)), .val (.int (sb_top pa pp pd)), .val (.ref ad1), .unset, .unset, .unset, .unset, .unset, .unset, .unset, .unset] [(.ref pw), (.int (12 : Int32)), (.int (sb_n pa pp pd)), (.int (sb_top pa pp pd)), (.long (sb_v pa pp pd)), (.int (7 : Int32)), (.ref ad1)])) rfl (by rw [hml]; rfl) (argsL := [(.long (sb_v pa pp pd)), (.int (sb_top pa pp pd)), (.int (sb_n pa pp pd)), (.int (12 : Int32)), (.ref pw)]) (rest := [(.int (7 : Int32)), (.ref ad1)]) (lenOf pd_5 rfl) rfl (by show 2 * 0 + _ ≤ _; exact Nat.le_of_eq rfl) (hb hby at_444) (fun _ _ => ⟨rfl, e29, (by decide : 2 + 0 ≤ _), (by decide : 39 + 0 ≤ _)⟩)
  dsimp only [Pt.U, Pt.locs, Pt.cells, Pt.slots] at X32 l32 y32 z32 st32 hQ32
  rw [l32, y32, z32] at X32
  replace X32 : Stand _ _ _ _ _ _ _ _ _ _ _ _ 2 39 := X32
  obtain ⟨vq32, N32, e32⟩ := hQ32
  rw [vq32] at st32
  have Nn32 := Fr.app Nn29 N32
  obtain ⟨c33, A33, q33, S33, M33, H33, U33⟩ := id V29
  obtain ⟨T33, h33, X33, e33, W33, st33⟩ := stC X32 hx hZ e32 A33 (j := (7 : Int32)) (inb_of S33 ⟨(by decide : ¬ ((7 : Int32) < (0 : Int32))), (by decide : (7 : Int32) < (20 : Int32))⟩) (g := (mkF m 447 #[.val (.long pa), .second, .val (.int pp), s3, s4, .val (.int pd), s6, s7, s8, s9, s10, .val (.ref pw), .val (.long (sb_v pa pp pd)), .second, .val (.int (sb_n pa pp pd)), .val (.int (sb_top pa pp pd)), .val (.ref ad1), .unset, .unset, .unset, .unset, .unset, .unset, .unset, .unset] [(.int (dig_res (sb_v pa pp pd) (sb_top pa pp pd) (sb_n pa pp pd) (12 : Int32))), (.int (7 : Int32)), (.ref ad1)])) rfl rfl (hb hby at_447)
  have Nn33 := Fr.snoc X33 Nn32 gn1
  have q34 : Old Z n0 h33 := (q30.wr W33 gn1)
  have q35 : Arv Z h33 pw kp .long (19 : Int32) own_pwv (.long (0 : Int64)) := (q31.other W33 ne_pw_ad1)
  have V33 : Arv Z h33 ad1 kA1 .char (20 : Int32) [(.int (nar .char (dig_res (sb_v pa pp pd) (sb_top pa pp pd) (sb_n pa pp pd) (19 : Int32)))), (.int (nar .char (dig_res (sb_v pa pp pd) (sb_top pa pp pd) (sb_n pa pp pd) (18 : Int32)))), (.int (nar .char (dig_res (sb_v pa pp pd) (sb_top pa pp pd) (sb_n pa pp pd) (17 : Int32)))), (.int (nar .char (dig_res (sb_v pa pp pd) (sb_top pa pp pd) (sb_n pa pp pd) (16 : Int32)))), (.int (nar .char (dig_res (sb_v pa pp pd) (sb_top pa pp pd) (sb_n pa pp pd) (15 : Int32)))), (.int (nar .char (dig_res (sb_v pa pp pd) (sb_top pa pp pd) (sb_n pa pp pd) (14 : Int32)))), (.int (nar .char (dig_res (sb_v pa pp pd) (sb_top pa pp pd) (sb_n pa pp pd) (13 : Int32)))), (.int (nar .char (dig_res (sb_v pa pp pd) (sb_top pa pp pd) (sb_n pa pp pd) (12 : Int32)))), (.int (0 : Int32)), (.int (0 : Int32)), (.int (0 : Int32)), (.int (0 : Int32)), (.int (0 : Int32)), (.int (0 : Int32)), (.int (0 : Int32)), (.int (0 : Int32)), (.int (0 : Int32)), (.int (0 : Int32)), (.int (0 : Int32)), (.int (0 : Int32))] (.int (0 : Int32)) := (Arv.set A33 q33 S33 M33 H33 U33 (fits_nar_char _) W33 7 rfl (Nat.le_of_ble_eq_true rfl))
  have Z33 : n0 ≤ h33.size := Nat.le_trans Z29 (Keep.of_wr W33).1
  obtain ⟨_, _, ⟨T36, L36, k36, n36⟩, -, X36, ⟨Lc36, hQ36, l36, y36, z36⟩, st36⟩ := Jvm.LawKit.callS X33 hx (y := (⟨"com/example/kontrakt/kontrakt/input/NumeralsCountPinLaw", "dig", "(JIII[J)C"⟩ : MethodName)) hown (mvT hZ (hw _ (List.mem_of_getElem? (i := 24) rfl))) (mvT hZ (hw _ (List.mem_of_getElem? (i := 25) rfl))) (mvT hZ (hw _ (List.mem_of_getElem? (i := 26) rfl))) (mvT hZ (hw _ (List.mem_of_getElem? (i := 27) rfl))) (by decide) (backOf (W := 2) (rm_dig l Z a0 hw [] (sb_v pa pp pd) (sb_top pa pp pd) (sb_n pa pp pd) (11 : Int32) pw kp (h33) n0 Z33 q35 (by decide) (by decide)) hZ (hw _ (List.mem_of_getElem? (i := 27) rfl)) (hw _ (List.mem_of_getElem? (i := 26) rfl)) (by decide) (by decide)) (g := (mkF m 462 #[.val (.long pa), .second, .val (.int pp), s3, s4, .val (.int pd), s6, s7, s8, s9, s10, .val (.ref pw), .val (.long (sb_v pa pp pd)), .second, .val (.int (sb_n pa pp pd)), .val (.int (sb_top pa pp pd)), .val (.ref ad1), .unset, .unset, .unset, .unset, .unset, .unset, .unset, .unset] [(.ref pw), (.int (11 : Int32)), (.int (sb_n pa pp pd)), (.int (sb_top pa pp pd)), (.long (sb_v pa pp pd)), (.int (8 : Int32)), (.ref ad1)])) rfl (by rw [hml]; rfl) (argsL := [(.long (sb_v pa pp pd)), (.int (sb_top pa pp pd)), (.int (sb_n pa pp pd)), (.int (11 : Int32)), (.ref pw)]) (rest := [(.int (8 : Int32)), (.ref ad1)]) (lenOf pd_5 rfl) rfl (by show 2 * 0 + _ ≤ _; exact Nat.le_of_eq rfl) (hb hby at_462) (fun _ _ => ⟨rfl, e33, (by decide : 2 + 0 ≤ _), (by decide : 39 + 0 ≤ _)⟩)
  dsimp only [Pt.U, Pt.locs, Pt.cells, Pt.slots] at X36 l36 y36 z36 st36 hQ36
  rw [l36, y36, z36] at X36
  replace X36 : Stand _ _ _ _ _ _ _ _ _ _ _ _ 2 39 := X36
  obtain ⟨vq36, N36, e36⟩ := hQ36
  rw [vq36] at st36
  have Nn36 := Fr.app Nn33 N36
  obtain ⟨c37, A37, q37, S37, M37, H37, U37⟩ := id V33
  obtain ⟨T37, h37, X37, e37, W37, st37⟩ := stC X36 hx hZ e36 A37 (j := (8 : Int32)) (inb_of S37 ⟨(by decide : ¬ ((8 : Int32) < (0 : Int32))), (by decide : (8 : Int32) < (20 : Int32))⟩) (g := (mkF m 465 #[.val (.long pa), .second, .val (.int pp), s3, s4, .val (.int pd), s6, s7, s8, s9, s10, .val (.ref pw), .val (.long (sb_v pa pp pd)), .second, .val (.int (sb_n pa pp pd)), .val (.int (sb_top pa pp pd)), .val (.ref ad1), .unset, .unset, .unset, .unset, .unset, .unset, .unset, .unset] [(.int (dig_res (sb_v pa pp pd) (sb_top pa pp pd) (sb_n pa pp pd) (11 : Int32))), (.int (8 : Int32)), (.ref ad1)])) rfl rfl (hb hby at_465)
  have Nn37 := Fr.snoc X37 Nn36 gn1
  have q38 : Old Z n0 h37 := (q34.wr W37 gn1)
  have q39 : Arv Z h37 pw kp .long (19 : Int32) own_pwv (.long (0 : Int64)) := (q35.other W37 ne_pw_ad1)
  have V37 : Arv Z h37 ad1 kA1 .char (20 : Int32) [(.int (nar .char (dig_res (sb_v pa pp pd) (sb_top pa pp pd) (sb_n pa pp pd) (19 : Int32)))), (.int (nar .char (dig_res (sb_v pa pp pd) (sb_top pa pp pd) (sb_n pa pp pd) (18 : Int32)))), (.int (nar .char (dig_res (sb_v pa pp pd) (sb_top pa pp pd) (sb_n pa pp pd) (17 : Int32)))), (.int (nar .char (dig_res (sb_v pa pp pd) (sb_top pa pp pd) (sb_n pa pp pd) (16 : Int32)))), (.int (nar .char (dig_res (sb_v pa pp pd) (sb_top pa pp pd) (sb_n pa pp pd) (15 : Int32)))), (.int (nar .char (dig_res (sb_v pa pp pd) (sb_top pa pp pd) (sb_n pa pp pd) (14 : Int32)))), (.int (nar .char (dig_res (sb_v pa pp pd) (sb_top pa pp pd) (sb_n pa pp pd) (13 : Int32)))), (.int (nar .char (dig_res (sb_v pa pp pd) (sb_top pa pp pd) (sb_n pa pp pd) (12 : Int32)))), (.int (nar .char (dig_res (sb_v pa pp pd) (sb_top pa pp pd) (sb_n pa pp pd) (11 : Int32)))), (.int (0 : Int32)), (.int (0 : Int32)), (.int (0 : Int32)), (.int (0 : Int32)), (.int (0 : Int32)), (.int (0 : Int32)), (.int (0 : Int32)), (.int (0 : Int32)), (.int (0 : Int32)), (.int (0 : Int32)), (.int (0 : Int32))] (.int (0 : Int32)) := (Arv.set A37 q37 S37 M37 H37 U37 (fits_nar_char _) W37 8 rfl (Nat.le_of_ble_eq_true rfl))
  have Z37 : n0 ≤ h37.size := Nat.le_trans Z33 (Keep.of_wr W37).1
  obtain ⟨_, _, ⟨T40, L40, k40, n40⟩, -, X40, ⟨Lc40, hQ40, l40, y40, z40⟩, st40⟩ := Jvm.LawKit.callS X37 hx (y := (⟨"com/example/kontrakt/kontrakt/input/NumeralsCountPinLaw", "dig", "(JIII[J)C"⟩ : MethodName)) hown (mvT hZ (hw _ (List.mem_of_getElem? (i := 24) rfl))) (mvT hZ (hw _ (List.mem_of_getElem? (i := 25) rfl))) (mvT hZ (hw _ (List.mem_of_getElem? (i := 26) rfl))) (mvT hZ (hw _ (List.mem_of_getElem? (i := 27) rfl))) (by decide) (backOf (W := 2) (rm_dig l Z a0 hw [] (sb_v pa pp pd) (sb_top pa pp pd) (sb_n pa pp pd) (10 : Int32) pw kp (h37) n0 Z37 q39 (by decide) (by decide)) hZ (hw _ (List.mem_of_getElem? (i := 27) rfl)) (hw _ (List.mem_of_getElem? (i := 26) rfl)) (by decide) (by decide)) (g := (mkF m 480 #[.val (.long pa), .second, .val (.int pp), s3, s4, .val (.int pd), s6, s7, s8, s9, s10, .val (.ref pw), .val (.long (sb_v pa pp pd)), .second, .val (.int (sb_n pa pp pd)), .val (.int (sb_top pa pp pd)), .val (.ref ad1), .unset, .unset, .unset, .unset, .unset, .unset, .unset, .unset] [(.ref pw), (.int (10 : Int32)), (.int (sb_n pa pp pd)), (.int (sb_top pa pp pd)), (.long (sb_v pa pp pd)), (.int (9 : Int32)), (.ref ad1)])) rfl (by rw [hml]; rfl) (argsL := [(.long (sb_v pa pp pd)), (.int (sb_top pa pp pd)), (.int (sb_n pa pp pd)), (.int (10 : Int32)), (.ref pw)]) (rest := [(.int (9 : Int32)), (.ref ad1)]) (lenOf pd_5 rfl) rfl (by show 2 * 0 + _ ≤ _; exact Nat.le_of_eq rfl) (hb hby at_480) (fun _ _ => ⟨rfl, e37, (by decide : 2 + 0 ≤ _), (by decide : 39 + 0 ≤ _)⟩)
  dsimp only [Pt.U, Pt.locs, Pt.cells, Pt.slots] at X40 l40 y40 z40 st40 hQ40
  rw [l40, y40, z40] at X40
  replace X40 : Stand _ _ _ _ _ _ _ _ _ _ _ _ 2 39 := X40
  obtain ⟨vq40, N40, e40⟩ := hQ40
  rw [vq40] at st40
  have Nn40 := Fr.app Nn37 N40
  obtain ⟨c41, A41, q41, S41, M41, H41, U41⟩ := id V37
  obtain ⟨T41, h41, X41, e41, W41, st41⟩ := stC X40 hx hZ e40 A41 (j := (9 : Int32)) (inb_of S41 ⟨(by decide : ¬ ((9 : Int32) < (0 : Int32))), (by decide : (9 : Int32) < (20 : Int32))⟩) (g := (mkF m 483 #[.val (.long pa), .second, .val (.int pp), s3, s4, .val (.int pd), s6, s7, s8, s9, s10, .val (.ref pw), .val (.long (sb_v pa pp pd)), .second, .val (.int (sb_n pa pp pd)), .val (.int (sb_top pa pp pd)), .val (.ref ad1), .unset, .unset, .unset, .unset, .unset, .unset, .unset, .unset] [(.int (dig_res (sb_v pa pp pd) (sb_top pa pp pd) (sb_n pa pp pd) (10 : Int32))), (.int (9 : Int32)), (.ref ad1)])) rfl rfl (hb hby at_483)
  have Nn41 := Fr.snoc X41 Nn40 gn1
  have q42 : Old Z n0 h41 := (q38.wr W41 gn1)
  have q43 : Arv Z h41 pw kp .long (19 : Int32) own_pwv (.long (0 : Int64)) := (q39.other W41 ne_pw_ad1)
  have V41 : Arv Z h41 ad1 kA1 .char (20 : Int32) [(.int (nar .char (dig_res (sb_v pa pp pd) (sb_top pa pp pd) (sb_n pa pp pd) (19 : Int32)))), (.int (nar .char (dig_res (sb_v pa pp pd) (sb_top pa pp pd) (sb_n pa pp pd) (18 : Int32)))), (.int (nar .char (dig_res (sb_v pa pp pd) (sb_top pa pp pd) (sb_n pa pp pd) (17 : Int32)))), (.int (nar .char (dig_res (sb_v pa pp pd) (sb_top pa pp pd) (sb_n pa pp pd) (16 : Int32)))), (.int (nar .char (dig_res (sb_v pa pp pd) (sb_top pa pp pd) (sb_n pa pp pd) (15 : Int32)))), (.int (nar .char (dig_res (sb_v pa pp pd) (sb_top pa pp pd) (sb_n pa pp pd) (14 : Int32)))), (.int (nar .char (dig_res (sb_v pa pp pd) (sb_top pa pp pd) (sb_n pa pp pd) (13 : Int32)))), (.int (nar .char (dig_res (sb_v pa pp pd) (sb_top pa pp pd) (sb_n pa pp pd) (12 : Int32)))), (.int (nar .char (dig_res (sb_v pa pp pd) (sb_top pa pp pd) (sb_n pa pp pd) (11 : Int32)))), (.int (nar .char (dig_res (sb_v pa pp pd) (sb_top pa pp pd) (sb_n pa pp pd) (10 : Int32)))), (.int (0 : Int32)), (.int (0 : Int32)), (.int (0 : Int32)), (.int (0 : Int32)), (.int (0 : Int32)), (.int (0 : Int32)), (.int (0 : Int32)), (.int (0 : Int32)), (.int (0 : Int32)), (.int (0 : Int32))] (.int (0 : Int32)) := (Arv.set A41 q41 S41 M41 H41 U41 (fits_nar_char _) W41 9 rfl (Nat.le_of_ble_eq_true rfl))
  have Z41 : n0 ≤ h41.size := Nat.le_trans Z37 (Keep.of_wr W41).1
  obtain ⟨_, _, ⟨T44, L44, k44, n44⟩, -, X44, ⟨Lc44, hQ44, l44, y44, z44⟩, st44⟩ := Jvm.LawKit.callS X41 hx (y := (⟨"com/example/kontrakt/kontrakt/input/NumeralsCountPinLaw", "dig", "(JIII[J)C"⟩ : MethodName)) hown (mvT hZ (hw _ (List.mem_of_getElem? (i := 24) rfl))) (mvT hZ (hw _ (List.mem_of_getElem? (i := 25) rfl))) (mvT hZ (hw _ (List.mem_of_getElem? (i := 26) rfl))) (mvT hZ (hw _ (List.mem_of_getElem? (i := 27) rfl))) (by decide) (backOf (W := 2) (rm_dig l Z a0 hw [] (sb_v pa pp pd) (sb_top pa pp pd) (sb_n pa pp pd) (9 : Int32) pw kp (h41) n0 Z41 q43 (by decide) (by decide)) hZ (hw _ (List.mem_of_getElem? (i := 27) rfl)) (hw _ (List.mem_of_getElem? (i := 26) rfl)) (by decide) (by decide)) (g := (mkF m 498 #[.val (.long pa), .second, .val (.int pp), s3, s4, .val (.int pd), s6, s7, s8, s9, s10, .val (.ref pw), .val (.long (sb_v pa pp pd)), .second, .val (.int (sb_n pa pp pd)), .val (.int (sb_top pa pp pd)), .val (.ref ad1), .unset, .unset, .unset, .unset, .unset, .unset, .unset, .unset] [(.ref pw), (.int (9 : Int32)), (.int (sb_n pa pp pd)), (.int (sb_top pa pp pd)), (.long (sb_v pa pp pd)), (.int (10 : Int32)), (.ref ad1)])) rfl (by rw [hml]; rfl) (argsL := [(.long (sb_v pa pp pd)), (.int (sb_top pa pp pd)), (.int (sb_n pa pp pd)), (.int (9 : Int32)), (.ref pw)]) (rest := [(.int (10 : Int32)), (.ref ad1)]) (lenOf pd_5 rfl) rfl (by show 2 * 0 + _ ≤ _; exact Nat.le_of_eq rfl) (hb hby at_498) (fun _ _ => ⟨rfl, e41, (by decide : 2 + 0 ≤ _), (by decide : 39 + 0 ≤ _)⟩)
  dsimp only [Pt.U, Pt.locs, Pt.cells, Pt.slots] at X44 l44 y44 z44 st44 hQ44
  rw [l44, y44, z44] at X44
  replace X44 : Stand _ _ _ _ _ _ _ _ _ _ _ _ 2 39 := X44
  obtain ⟨vq44, N44, e44⟩ := hQ44
  rw [vq44] at st44
  have Nn44 := Fr.app Nn41 N44
  obtain ⟨c45, A45, q45, S45, M45, H45, U45⟩ := id V41
  obtain ⟨T45, h45, X45, e45, W45, st45⟩ := stC X44 hx hZ e44 A45 (j := (10 : Int32)) (inb_of S45 ⟨(by decide : ¬ ((10 : Int32) < (0 : Int32))), (by decide : (10 : Int32) < (20 : Int32))⟩) (g := (mkF m 501 #[.val (.long pa), .second, .val (.int pp), s3, s4, .val (.int pd), s6, s7, s8, s9, s10, .val (.ref pw), .val (.long (sb_v pa pp pd)), .second, .val (.int (sb_n pa pp pd)), .val (.int (sb_top pa pp pd)), .val (.ref ad1), .unset, .unset, .unset, .unset, .unset, .unset, .unset, .unset] [(.int (dig_res (sb_v pa pp pd) (sb_top pa pp pd) (sb_n pa pp pd) (9 : Int32))), (.int (10 : Int32)), (.ref ad1)])) rfl rfl (hb hby at_501)
  have Nn45 := Fr.snoc X45 Nn44 gn1
  have q46 : Old Z n0 h45 := (q42.wr W45 gn1)
  have q47 : Arv Z h45 pw kp .long (19 : Int32) own_pwv (.long (0 : Int64)) := (q43.other W45 ne_pw_ad1)
  have V45 : Arv Z h45 ad1 kA1 .char (20 : Int32) [(.int (nar .char (dig_res (sb_v pa pp pd) (sb_top pa pp pd) (sb_n pa pp pd) (19 : Int32)))), (.int (nar .char (dig_res (sb_v pa pp pd) (sb_top pa pp pd) (sb_n pa pp pd) (18 : Int32)))), (.int (nar .char (dig_res (sb_v pa pp pd) (sb_top pa pp pd) (sb_n pa pp pd) (17 : Int32)))), (.int (nar .char (dig_res (sb_v pa pp pd) (sb_top pa pp pd) (sb_n pa pp pd) (16 : Int32)))), (.int (nar .char (dig_res (sb_v pa pp pd) (sb_top pa pp pd) (sb_n pa pp pd) (15 : Int32)))), (.int (nar .char (dig_res (sb_v pa pp pd) (sb_top pa pp pd) (sb_n pa pp pd) (14 : Int32)))), (.int (nar .char (dig_res (sb_v pa pp pd) (sb_top pa pp pd) (sb_n pa pp pd) (13 : Int32)))), (.int (nar .char (dig_res (sb_v pa pp pd) (sb_top pa pp pd) (sb_n pa pp pd) (12 : Int32)))), (.int (nar .char (dig_res (sb_v pa pp pd) (sb_top pa pp pd) (sb_n pa pp pd) (11 : Int32)))), (.int (nar .char (dig_res (sb_v pa pp pd) (sb_top pa pp pd) (sb_n pa pp pd) (10 : Int32)))), (.int (nar .char (dig_res (sb_v pa pp pd) (sb_top pa pp pd) (sb_n pa pp pd) (9 : Int32)))), (.int (0 : Int32)), (.int (0 : Int32)), (.int (0 : Int32)), (.int (0 : Int32)), (.int (0 : Int32)), (.int (0 : Int32)), (.int (0 : Int32)), (.int (0 : Int32)), (.int (0 : Int32))] (.int (0 : Int32)) := (Arv.set A45 q45 S45 M45 H45 U45 (fits_nar_char _) W45 10 rfl (Nat.le_of_ble_eq_true rfl))
  have Z45 : n0 ≤ h45.size := Nat.le_trans Z41 (Keep.of_wr W45).1
  obtain ⟨_, _, ⟨T48, L48, k48, n48⟩, -, X48, ⟨Lc48, hQ48, l48, y48, z48⟩, st48⟩ := Jvm.LawKit.callS X45 hx (y := (⟨"com/example/kontrakt/kontrakt/input/NumeralsCountPinLaw", "dig", "(JIII[J)C"⟩ : MethodName)) hown (mvT hZ (hw _ (List.mem_of_getElem? (i := 24) rfl))) (mvT hZ (hw _ (List.mem_of_getElem? (i := 25) rfl))) (mvT hZ (hw _ (List.mem_of_getElem? (i := 26) rfl))) (mvT hZ (hw _ (List.mem_of_getElem? (i := 27) rfl))) (by decide) (backOf (W := 2) (rm_dig l Z a0 hw [] (sb_v pa pp pd) (sb_top pa pp pd) (sb_n pa pp pd) (8 : Int32) pw kp (h45) n0 Z45 q47 (by decide) (by decide)) hZ (hw _ (List.mem_of_getElem? (i := 27) rfl)) (hw _ (List.mem_of_getElem? (i := 26) rfl)) (by decide) (by decide)) (g := (mkF m 516 #[.val (.long pa), .second, .val (.int pp), s3, s4, .val (.int pd), s6, s7, s8, s9, s10, .val (.ref pw), .val (.long (sb_v pa pp pd)), .second, .val (.int (sb_n pa pp pd)), .val (.int (sb_top pa pp pd)), .val (.ref ad1), .unset, .unset, .unset, .unset, .unset, .unset, .unset, .unset] [(.ref pw), (.int (8 : Int32)), (.int (sb_n pa pp pd)), (.int (sb_top pa pp pd)), (.long (sb_v pa pp pd)), (.int (11 : Int32)), (.ref ad1)])) rfl (by rw [hml]; rfl) (argsL := [(.long (sb_v pa pp pd)), (.int (sb_top pa pp pd)), (.int (sb_n pa pp pd)), (.int (8 : Int32)), (.ref pw)]) (rest := [(.int (11 : Int32)), (.ref ad1)]) (lenOf pd_5 rfl) rfl (by show 2 * 0 + _ ≤ _; exact Nat.le_of_eq rfl) (hb hby at_516) (fun _ _ => ⟨rfl, e45, (by decide : 2 + 0 ≤ _), (by decide : 39 + 0 ≤ _)⟩)
  dsimp only [Pt.U, Pt.locs, Pt.cells, Pt.slots] at X48 l48 y48 z48 st48 hQ48
  rw [l48, y48, z48] at X48
  replace X48 : Stand _ _ _ _ _ _ _ _ _ _ _ _ 2 39 := X48
  obtain ⟨vq48, N48, e48⟩ := hQ48
  rw [vq48] at st48
  have Nn48 := Fr.app Nn45 N48
  obtain ⟨c49, A49, q49, S49, M49, H49, U49⟩ := id V45
  obtain ⟨T49, h49, X49, e49, W49, st49⟩ := stC X48 hx hZ e48 A49 (j := (11 : Int32)) (inb_of S49 ⟨(by decide : ¬ ((11 : Int32) < (0 : Int32))), (by decide : (11 : Int32) < (20 : Int32))⟩) (g := (mkF m 519 #[.val (.long pa), .second, .val (.int pp), s3, s4, .val (.int pd), s6, s7, s8, s9, s10, .val (.ref pw), .val (.long (sb_v pa pp pd)), .second, .val (.int (sb_n pa pp pd)), .val (.int (sb_top pa pp pd)), .val (.ref ad1), .unset, .unset, .unset, .unset, .unset, .unset, .unset, .unset] [(.int (dig_res (sb_v pa pp pd) (sb_top pa pp pd) (sb_n pa pp pd) (8 : Int32))), (.int (11 : Int32)), (.ref ad1)])) rfl rfl (hb hby at_519)
  have Nn49 := Fr.snoc X49 Nn48 gn1
  have q50 : Old Z n0 h49 := (q46.wr W49 gn1)
  have q51 : Arv Z h49 pw kp .long (19 : Int32) own_pwv (.long (0 : Int64)) := (q47.other W49 ne_pw_ad1)
  have V49 : Arv Z h49 ad1 kA1 .char (20 : Int32) [(.int (nar .char (dig_res (sb_v pa pp pd) (sb_top pa pp pd) (sb_n pa pp pd) (19 : Int32)))), (.int (nar .char (dig_res (sb_v pa pp pd) (sb_top pa pp pd) (sb_n pa pp pd) (18 : Int32)))), (.int (nar .char (dig_res (sb_v pa pp pd) (sb_top pa pp pd) (sb_n pa pp pd) (17 : Int32)))), (.int (nar .char (dig_res (sb_v pa pp pd) (sb_top pa pp pd) (sb_n pa pp pd) (16 : Int32)))), (.int (nar .char (dig_res (sb_v pa pp pd) (sb_top pa pp pd) (sb_n pa pp pd) (15 : Int32)))), (.int (nar .char (dig_res (sb_v pa pp pd) (sb_top pa pp pd) (sb_n pa pp pd) (14 : Int32)))), (.int (nar .char (dig_res (sb_v pa pp pd) (sb_top pa pp pd) (sb_n pa pp pd) (13 : Int32)))), (.int (nar .char (dig_res (sb_v pa pp pd) (sb_top pa pp pd) (sb_n pa pp pd) (12 : Int32)))), (.int (nar .char (dig_res (sb_v pa pp pd) (sb_top pa pp pd) (sb_n pa pp pd) (11 : Int32)))), (.int (nar .char (dig_res (sb_v pa pp pd) (sb_top pa pp pd) (sb_n pa pp pd) (10 : Int32)))), (.int (nar .char (dig_res (sb_v pa pp pd) (sb_top pa pp pd) (sb_n pa pp pd) (9 : Int32)))), (.int (nar .char (dig_res (sb_v pa pp pd) (sb_top pa pp pd) (sb_n pa pp pd) (8 : Int32)))), (.int (0 : Int32)), (.int (0 : Int32)), (.int (0 : Int32)), (.int (0 : Int32)), (.int (0 : Int32)), (.int (0 : Int32)), (.int (0 : Int32)), (.int (0 : Int32))] (.int (0 : Int32)) := (Arv.set A49 q49 S49 M49 H49 U49 (fits_nar_char _) W49 11 rfl (Nat.le_of_ble_eq_true rfl))
  have Z49 : n0 ≤ h49.size := Nat.le_trans Z45 (Keep.of_wr W49).1
  obtain ⟨_, _, ⟨T52, L52, k52, n52⟩, -, X52, ⟨Lc52, hQ52, l52, y52, z52⟩, st52⟩ := Jvm.LawKit.callS X49 hx (y := (⟨"com/example/kontrakt/kontrakt/input/NumeralsCountPinLaw", "dig", "(JIII[J)C"⟩ : MethodName)) hown (mvT hZ (hw _ (List.mem_of_getElem? (i := 24) rfl))) (mvT hZ (hw _ (List.mem_of_getElem? (i := 25) rfl))) (mvT hZ (hw _ (List.mem_of_getElem? (i := 26) rfl))) (mvT hZ (hw _ (List.mem_of_getElem? (i := 27) rfl))) (by decide) (backOf (W := 2) (rm_dig l Z a0 hw [] (sb_v pa pp pd) (sb_top pa pp pd) (sb_n pa pp pd) (7 : Int32) pw kp (h49) n0 Z49 q51 (by decide) (by decide)) hZ (hw _ (List.mem_of_getElem? (i := 27) rfl)) (hw _ (List.mem_of_getElem? (i := 26) rfl)) (by decide) (by decide)) (g := (mkF m 534 #[.val (.long pa), .second, .val (.int pp), s3, s4, .val (.int pd), s6, s7, s8, s9, s10, .val (.ref pw), .val (.long (sb_v pa pp pd)), .second, .val (.int (sb_n pa pp pd)), .val (.int (sb_top pa pp pd)), .val (.ref ad1), .unset, .unset, .unset, .unset, .unset, .unset, .unset, .unset] [(.ref pw), (.int (7 : Int32)), (.int (sb_n pa pp pd)), (.int (sb_top pa pp pd)), (.long (sb_v pa pp pd)), (.int (12 : Int32)), (.ref ad1)])) rfl (by rw [hml]; rfl) (argsL := [(.long (sb_v pa pp pd)), (.int (sb_top pa pp pd)), (.int (sb_n pa pp pd)), (.int (7 : Int32)), (.ref pw)]) (rest := [(.int (12 : Int32)), (.ref ad1)]) (lenOf pd_5 rfl) rfl (by show 2 * 0 + _ ≤ _; exact Nat.le_of_eq rfl) (hb hby at_534) (fun _ _ => ⟨rfl, e49, (by decide : 2 + 0 ≤ _), (by decide : 39 + 0 ≤ _)⟩)
  dsimp only [Pt.U, Pt.locs, Pt.cells, Pt.slots] at X52 l52 y52 z52 st52 hQ52
  rw [l52, y52, z52] at X52
  replace X52 : Stand _ _ _ _ _ _ _ _ _ _ _ _ 2 39 := X52
  obtain ⟨vq52, N52, e52⟩ := hQ52
  rw [vq52] at st52
  have Nn52 := Fr.app Nn49 N52
  obtain ⟨c53, A53, q53, S53, M53, H53, U53⟩ := id V49
  obtain ⟨T53, h53, X53, e53, W53, st53⟩ := stC X52 hx hZ e52 A53 (j := (12 : Int32)) (inb_of S53 ⟨(by decide : ¬ ((12 : Int32) < (0 : Int32))), (by decide : (12 : Int32) < (20 : Int32))⟩) (g := (mkF m 537 #[.val (.long pa), .second, .val (.int pp), s3, s4, .val (.int pd), s6, s7, s8, s9, s10, .val (.ref pw), .val (.long (sb_v pa pp pd)), .second, .val (.int (sb_n pa pp pd)), .val (.int (sb_top pa pp pd)), .val (.ref ad1), .unset, .unset, .unset, .unset, .unset, .unset, .unset, .unset] [(.int (dig_res (sb_v pa pp pd) (sb_top pa pp pd) (sb_n pa pp pd) (7 : Int32))), (.int (12 : Int32)), (.ref ad1)])) rfl rfl (hb hby at_537)
  have Nn53 := Fr.snoc X53 Nn52 gn1
  have q54 : Old Z n0 h53 := (q50.wr W53 gn1)
  have q55 : Arv Z h53 pw kp .long (19 : Int32) own_pwv (.long (0 : Int64)) := (q51.other W53 ne_pw_ad1)
  have V53 : Arv Z h53 ad1 kA1 .char (20 : Int32) [(.int (nar .char (dig_res (sb_v pa pp pd) (sb_top pa pp pd) (sb_n pa pp pd) (19 : Int32)))), (.int (nar .char (dig_res (sb_v pa pp pd) (sb_top pa pp pd) (sb_n pa pp pd) (18 : Int32)))), (.int (nar .char (dig_res (sb_v pa pp pd) (sb_top pa pp pd) (sb_n pa pp pd) (17 : Int32)))), (.int (nar .char (dig_res (sb_v pa pp pd) (sb_top pa pp pd) (sb_n pa pp pd) (16 : Int32)))), (.int (nar .char (dig_res (sb_v pa pp pd) (sb_top pa pp pd) (sb_n pa pp pd) (15 : Int32)))), (.int (nar .char (dig_res (sb_v pa pp pd) (sb_top pa pp pd) (sb_n pa pp pd) (14 : Int32)))), (.int (nar .char (dig_res (sb_v pa pp pd) (sb_top pa pp pd) (sb_n pa pp pd) (13 : Int32)))), (.int (nar .char (dig_res (sb_v pa pp pd) (sb_top pa pp pd) (sb_n pa pp pd) (12 : Int32)))), (.int (nar .char (dig_res (sb_v pa pp pd) (sb_top pa pp pd) (sb_n pa pp pd) (11 : Int32)))), (.int (nar .char (dig_res (sb_v pa pp pd) (sb_top pa pp pd) (sb_n pa pp pd) (10 : Int32)))), (.int (nar .char (dig_res (sb_v pa pp pd) (sb_top pa pp pd) (sb_n pa pp pd) (9 : Int32)))), (.int (nar .char (dig_res (sb_v pa pp pd) (sb_top pa pp pd) (sb_n pa pp pd) (8 : Int32)))), (.int (nar .char (dig_res (sb_v pa pp pd) (sb_top pa pp pd) (sb_n pa pp pd) (7 : Int32)))), (.int (0 : Int32)), (.int (0 : Int32)), (.int (0 : Int32)), (.int (0 : Int32)), (.int (0 : Int32)), (.int (0 : Int32)), (.int (0 : Int32))] (.int (0 : Int32)) := (Arv.set A53 q53 S53 M53 H53 U53 (fits_nar_char _) W53 12 rfl (Nat.le_of_ble_eq_true rfl))
  have Z53 : n0 ≤ h53.size := Nat.le_trans Z49 (Keep.of_wr W53).1
  obtain ⟨_, _, ⟨T56, L56, k56, n56⟩, -, X56, ⟨Lc56, hQ56, l56, y56, z56⟩, st56⟩ := Jvm.LawKit.callS X53 hx (y := (⟨"com/example/kontrakt/kontrakt/input/NumeralsCountPinLaw", "dig", "(JIII[J)C"⟩ : MethodName)) hown (mvT hZ (hw _ (List.mem_of_getElem? (i := 24) rfl))) (mvT hZ (hw _ (List.mem_of_getElem? (i := 25) rfl))) (mvT hZ (hw _ (List.mem_of_getElem? (i := 26) rfl))) (mvT hZ (hw _ (List.mem_of_getElem? (i := 27) rfl))) (by decide) (backOf (W := 2) (rm_dig l Z a0 hw [] (sb_v pa pp pd) (sb_top pa pp pd) (sb_n pa pp pd) (6 : Int32) pw kp (h53) n0 Z53 q55 (by decide) (by decide)) hZ (hw _ (List.mem_of_getElem? (i := 27) rfl)) (hw _ (List.mem_of_getElem? (i := 26) rfl)) (by decide) (by decide)) (g := (mkF m 552 #[.val (.long pa), .second, .val (.int pp), s3, s4, .val (.int pd), s6, s7, s8, s9, s10, .val (.ref pw), .val (.long (sb_v pa pp pd)), .second, .val (.int (sb_n pa pp pd)), .val (.int (sb_top pa pp pd)), .val (.ref ad1), .unset, .unset, .unset, .unset, .unset, .unset, .unset, .unset] [(.ref pw), (.int (6 : Int32)), (.int (sb_n pa pp pd)), (.int (sb_top pa pp pd)), (.long (sb_v pa pp pd)), (.int (13 : Int32)), (.ref ad1)])) rfl (by rw [hml]; rfl) (argsL := [(.long (sb_v pa pp pd)), (.int (sb_top pa pp pd)), (.int (sb_n pa pp pd)), (.int (6 : Int32)), (.ref pw)]) (rest := [(.int (13 : Int32)), (.ref ad1)]) (lenOf pd_5 rfl) rfl (by show 2 * 0 + _ ≤ _; exact Nat.le_of_eq rfl) (hb hby at_552) (fun _ _ => ⟨rfl, e53, (by decide : 2 + 0 ≤ _), (by decide : 39 + 0 ≤ _)⟩)
  dsimp only [Pt.U, Pt.locs, Pt.cells, Pt.slots] at X56 l56 y56 z56 st56 hQ56
  rw [l56, y56, z56] at X56
  replace X56 : Stand _ _ _ _ _ _ _ _ _ _ _ _ 2 39 := X56
  obtain ⟨vq56, N56, e56⟩ := hQ56
  rw [vq56] at st56
  have Nn56 := Fr.app Nn53 N56
  obtain ⟨c57, A57, q57, S57, M57, H57, U57⟩ := id V53
  obtain ⟨T57, h57, X57, e57, W57, st57⟩ := stC X56 hx hZ e56 A57 (j := (13 : Int32)) (inb_of S57 ⟨(by decide : ¬ ((13 : Int32) < (0 : Int32))), (by decide : (13 : Int32) < (20 : Int32))⟩) (g := (mkF m 555 #[.val (.long pa), .second, .val (.int pp), s3, s4, .val (.int pd), s6, s7, s8, s9, s10, .val (.ref pw), .val (.long (sb_v pa pp pd)), .second, .val (.int (sb_n pa pp pd)), .val (.int (sb_top pa pp pd)), .val (.ref ad1), .unset, .unset, .unset, .unset, .unset, .unset, .unset, .unset] [(.int (dig_res (sb_v pa pp pd) (sb_top pa pp pd) (sb_n pa pp pd) (6 : Int32))), (.int (13 : Int32)), (.ref ad1)])) rfl rfl (hb hby at_555)
  have Nn57 := Fr.snoc X57 Nn56 gn1
  have q58 : Old Z n0 h57 := (q54.wr W57 gn1)
  have q59 : Arv Z h57 pw kp .long (19 : Int32) own_pwv (.long (0 : Int64)) := (q55.other W57 ne_pw_ad1)
  have V57 : Arv Z h57 ad1 kA1 .char (20 : Int32) [(.int (nar .char (dig_res (sb_v pa pp pd) (sb_top pa pp pd) (sb_n pa pp pd) (19 : Int32)))), (.int (nar .char (dig_res (sb_v pa pp pd) (sb_top pa pp pd) (sb_n pa pp pd) (18 : Int32)))), (.int (nar .char (dig_res (sb_v pa pp pd) (sb_top pa pp pd) (sb_n pa pp pd) (17 : Int32)))), (.int (nar .char (dig_res (sb_v pa pp pd) (sb_top pa pp pd) (sb_n pa pp pd) (16 : Int32)))), (.int (nar .char (dig_res (sb_v pa pp pd) (sb_top pa pp pd) (sb_n pa pp pd) (15 : Int32)))), (.int (nar .char (dig_res (sb_v pa pp pd) (sb_top pa pp pd) (sb_n pa pp pd) (14 : Int32)))), (.int (nar .char (dig_res (sb_v pa pp pd) (sb_top pa pp pd) (sb_n pa pp pd) (13 : Int32)))), (.int (nar .char (dig_res (sb_v pa pp pd) (sb_top pa pp pd) (sb_n pa pp pd) (12 : Int32)))), (.int (nar .char (dig_res (sb_v pa pp pd) (sb_top pa pp pd) (sb_n pa pp pd) (11 : Int32)))), (.int (nar .char (dig_res (sb_v pa pp pd) (sb_top pa pp pd) (sb_n pa pp pd) (10 : Int32)))), (.int (nar .char (dig_res (sb_v pa pp pd) (sb_top pa pp pd) (sb_n pa pp pd) (9 : Int32)))), (.int (nar .char (dig_res (sb_v pa pp pd) (sb_top pa pp pd) (sb_n pa pp pd) (8 : Int32)))), (.int (nar .char (dig_res (sb_v pa pp pd) (sb_top pa pp pd) (sb_n pa pp pd) (7 : Int32)))), (.int (nar .char (dig_res (sb_v pa pp pd) (sb_top pa pp pd) (sb_n pa pp pd) (6 : Int32)))), (.int (0 : Int32)), (.int (0 : Int32)), (.int (0 : Int32)), (.int (0 : Int32)), (.int (0 : Int32)), (.int (0 : Int32))] (.int (0 : Int32)) := (Arv.set A57 q57 S57 M57 H57 U57 (fits_nar_char _) W57 13 rfl (Nat.le_of_ble_eq_true rfl))
  have Z57 : n0 ≤ h57.size := Nat.le_trans Z53 (Keep.of_wr W57).1
  obtain ⟨_, _, ⟨T60, L60, k60, n60⟩, -, X60, ⟨Lc60, hQ60, l60, y60, z60⟩, st60⟩ := Jvm.LawKit.callS X57 hx (y := (⟨"com/example/kontrakt/kontrakt/input/NumeralsCountPinLaw", "dig", "(JIII[J)C"⟩ : MethodName)) hown (mvT hZ (hw _ (List.mem_of_getElem? (i := 24) rfl))) (mvT hZ (hw _ (List.mem_of_getElem? (i := 25) rfl))) (mvT hZ (hw _ (List.mem_of_getElem? (i := 26) rfl))) (mvT hZ (hw _ (List.mem_of_getElem? (i := 27) rfl))) (by decide) (backOf (W := 2) (rm_dig l Z a0 hw [] (sb_v pa pp pd) (sb_top pa pp pd) (sb_n pa pp pd) (5 : Int32) pw kp (h57) n0 Z57 q59 (by decide) (by decide)) hZ (hw _ (List.mem_of_getElem? (i := 27) rfl)) (hw _ (List.mem_of_getElem? (i := 26) rfl)) (by decide) (by decide)) (g := (mkF m 569 #[.val (.long pa), .second, .val (.int pp), s3, s4, .val (.int pd), s6, s7, s8, s9, s10, .val (.ref pw), .val (.long (sb_v pa pp pd)), .second, .val (.int (sb_n pa pp pd)), .val (.int (sb_top pa pp pd)), .val (.ref ad1), .unset, .unset, .unset, .unset, .unset, .unset, .unset, .unset] [(.ref pw), (.int (5 : Int32)), (.int (sb_n pa pp pd)), (.int (sb_top pa pp pd)), (.long (sb_v pa pp pd)), (.int (14 : Int32)), (.ref ad1)])) rfl (by rw [hml]; rfl) (argsL := [(.long (sb_v pa pp pd)), (.int (sb_top pa pp pd)), (.int (sb_n pa pp pd)), (.int (5 : Int32)), (.ref pw)]) (rest := [(.int (14 : Int32)), (.ref ad1)]) (lenOf pd_5 rfl) rfl (by show 2 * 0 + _ ≤ _; exact Nat.le_of_eq rfl) (hb hby at_569) (fun _ _ => ⟨rfl, e57, (by decide : 2 + 0 ≤ _), (by decide : 39 + 0 ≤ _)⟩)
  dsimp only [Pt.U, Pt.locs, Pt.cells, Pt.slots] at X60 l60 y60 z60 st60 hQ60
  rw [l60, y60, z60] at X60
  replace X60 : Stand _ _ _ _ _ _ _ _ _ _ _ _ 2 39 := X60
  obtain ⟨vq60, N60, e60⟩ := hQ60
  rw [vq60] at st60
  have Nn60 := Fr.app Nn57 N60
  obtain ⟨c61, A61, q61, S61, M61, H61, U61⟩ := id V57
  obtain ⟨T61, h61, X61, e61, W61, st61⟩ := stC X60 hx hZ e60 A61 (j := (14 : Int32)) (inb_of S61 ⟨(by decide : ¬ ((14 : Int32) < (0 : Int32))), (by decide : (14 : Int32) < (20 : Int32))⟩) (g := (mkF m 572 #[.val (.long pa), .second, .val (.int pp), s3, s4, .val (.int pd), s6, s7, s8, s9, s10, .val (.ref pw), .val (.long (sb_v pa pp pd)), .second, .val (.int (sb_n pa pp pd)), .val (.int (sb_top pa pp pd)), .val (.ref ad1), .unset, .unset, .unset, .unset, .unset, .unset, .unset, .unset] [(.int (dig_res (sb_v pa pp pd) (sb_top pa pp pd) (sb_n pa pp pd) (5 : Int32))), (.int (14 : Int32)), (.ref ad1)])) rfl rfl (hb hby at_572)
  have Nn61 := Fr.snoc X61 Nn60 gn1
  have q62 : Old Z n0 h61 := (q58.wr W61 gn1)
  have q63 : Arv Z h61 pw kp .long (19 : Int32) own_pwv (.long (0 : Int64)) := (q59.other W61 ne_pw_ad1)
  have V61 : Arv Z h61 ad1 kA1 .char (20 : Int32) [(.int (nar .char (dig_res (sb_v pa pp pd) (sb_top pa pp pd) (sb_n pa pp pd) (19 : Int32)))), (.int (nar .char (dig_res (sb_v pa pp pd) (sb_top pa pp pd) (sb_n pa pp pd) (18 : Int32)))), (.int (nar .char (dig_res (sb_v pa pp pd) (sb_top pa pp pd) (sb_n pa pp pd) (17 : Int32)))), (.int (nar .char (dig_res (sb_v pa pp pd) (sb_top pa pp pd) (sb_n pa pp pd) (16 : Int32)))), (.int (nar .char (dig_res (sb_v pa pp pd) (sb_top pa pp pd) (sb_n pa pp pd) (15 : Int32)))), (.int (nar .char (dig_res (sb_v pa pp pd) (sb_top pa pp pd) (sb_n pa pp pd) (14 : Int32)))), (.int (nar .char (dig_res (sb_v pa pp pd) (sb_top pa pp pd) (sb_n pa pp pd) (13 : Int32)))), (.int (nar .char (dig_res (sb_v pa pp pd) (sb_top pa pp pd) (sb_n pa pp pd) (12 : Int32)))), (.int (nar .char (dig_res (sb_v pa pp pd) (sb_top pa pp pd) (sb_n pa pp pd) (11 : Int32)))), (.int (nar .char (dig_res (sb_v pa pp pd) (sb_top pa pp pd) (sb_n pa pp pd) (10 : Int32)))), (.int (nar .char (dig_res (sb_v pa pp pd) (sb_top pa pp pd) (sb_n pa pp pd) (9 : Int32)))), (.int (nar .char (dig_res (sb_v pa pp pd) (sb_top pa pp pd) (sb_n pa pp pd) (8 : Int32)))), (.int (nar .char (dig_res (sb_v pa pp pd) (sb_top pa pp pd) (sb_n pa pp pd) (7 : Int32)))), (.int (nar .char (dig_res (sb_v pa pp pd) (sb_top pa pp pd) (sb_n pa pp pd) (6 : Int32)))), (.int (nar .char (dig_res (sb_v pa pp pd) (sb_top pa pp pd) (sb_n pa pp pd) (5 : Int32)))), (.int (0 : Int32)), (.int (0 : Int32)), (.int (0 : Int32)), (.int (0 : Int32)), (.int (0 : Int32))] (.int (0 : Int32)) := (Arv.set A61 q61 S61 M61 H61 U61 (fits_nar_char _) W61 14 rfl (Nat.le_of_ble_eq_true rfl))
  have Z61 : n0 ≤ h61.size := Nat.le_trans Z57 (Keep.of_wr W61).1
  obtain ⟨_, _, ⟨T64, L64, k64, n64⟩, -, X64, ⟨Lc64, hQ64, l64, y64, z64⟩, st64⟩ := Jvm.LawKit.callS X61 hx (y := (⟨"com/example/kontrakt/kontrakt/input/NumeralsCountPinLaw", "dig", "(JIII[J)C"⟩ : MethodName)) hown (mvT hZ (hw _ (List.mem_of_getElem? (i := 24) rfl))) (mvT hZ (hw _ (List.mem_of_getElem? (i := 25) rfl))) (mvT hZ (hw _ (List.mem_of_getElem? (i := 26) rfl))) (mvT hZ (hw _ (List.mem_of_getElem? (i := 27) rfl))) (by decide) (backOf (W := 2) (rm_dig l Z a0 hw [] (sb_v pa pp pd) (sb_top pa pp pd) (sb_n pa pp pd) (4 : Int32) pw kp (h61) n0 Z61 q63 (by decide) (by decide)) hZ (hw _ (List.mem_of_getElem? (i := 27) rfl)) (hw _ (List.mem_of_getElem? (i := 26) rfl)) (by decide) (by decide)) (g := (mkF m 586 #[.val (.long pa), .second, .val (.int pp), s3, s4, .val (.int pd), s6, s7, s8, s9, s10, .val (.ref pw), .val (.long (sb_v pa pp pd)), .second, .val (.int (sb_n pa pp pd)), .val (.int (sb_top pa pp pd)), .val (.ref ad1), .unset, .unset, .unset, .unset, .unset, .unset, .unset, .unset] [(.ref pw), (.int (4 : Int32)), (.int (sb_n pa pp pd)), (.int (sb_top pa pp pd)), (.long (sb_v pa pp pd)), (.int (15 : Int32)), (.ref ad1)])) rfl (by rw [hml]; rfl) (argsL := [(.long (sb_v pa pp pd)), (.int (sb_top pa pp pd)), (.int (sb_n pa pp pd)), (.int (4 : Int32)), (.ref pw)]) (rest := [(.int (15 : Int32)), (.ref ad1)]) (lenOf pd_5 rfl) rfl (by show 2 * 0 + _ ≤ _; exact Nat.le_of_eq rfl) (hb hby at_586) (fun _ _ => ⟨rfl, e61, (by decide : 2 + 0 ≤ _), (by decide : 39 + 0 ≤ _)⟩)
  dsimp only [Pt.U, Pt.locs, Pt.cells, Pt.slots] at X64 l64 y64 z64 st64 hQ64
  rw [l64, y64, z64] at X64
  replace X64 : Stand _ _ _ _ _ _ _ _ _ _ _ _ 2 39 := X64
  obtain ⟨vq64, N64, e64⟩ := hQ64
  rw [vq64] at st64
  have Nn64 := Fr.app Nn61 N64
  obtain ⟨c65, A65, q65, S65, M65, H65, U65⟩ := id V61
  obtain ⟨T65, h65, X65, e65, W65, st65⟩ := stC X64 hx hZ e64 A65 (j := (15 : Int32)) (inb_of S65 ⟨(by decide : ¬ ((15 : Int32) < (0 : Int32))), (by decide : (15 : Int32) < (20 : Int32))⟩) (g := (mkF m 589 #[.val (.long pa), .second, .val (.int pp), s3, s4, .val (.int pd), s6, s7, s8, s9, s10, .val (.ref pw), .val (.long (sb_v pa pp pd)), .second, .val (.int (sb_n pa pp pd)), .val (.int (sb_top pa pp pd)), .val (.ref ad1), .unset, .unset, .unset, .unset, .unset, .unset, .unset, .unset] [(.int (dig_res (sb_v pa pp pd) (sb_top pa pp pd) (sb_n pa pp pd) (4 : Int32))), (.int (15 : Int32)), (.ref ad1)])) rfl rfl (hb hby at_589)
  have Nn65 := Fr.snoc X65 Nn64 gn1
  have q66 : Old Z n0 h65 := (q62.wr W65 gn1)
  have q67 : Arv Z h65 pw kp .long (19 : Int32) own_pwv (.long (0 : Int64)) := (q63.other W65 ne_pw_ad1)
  have V65 : Arv Z h65 ad1 kA1 .char (20 : Int32) [(.int (nar .char (dig_res (sb_v pa pp pd) (sb_top pa pp pd) (sb_n pa pp pd) (19 : Int32)))), (.int (nar .char (dig_res (sb_v pa pp pd) (sb_top pa pp pd) (sb_n pa pp pd) (18 : Int32)))), (.int (nar .char (dig_res (sb_v pa pp pd) (sb_top pa pp pd) (sb_n pa pp pd) (17 : Int32)))), (.int (nar .char (dig_res (sb_v pa pp pd) (sb_top pa pp pd) (sb_n pa pp pd) (16 : Int32)))), (.int (nar .char (dig_res (sb_v pa pp pd) (sb_top pa pp pd) (sb_n pa pp pd) (15 : Int32)))), (.int (nar .char (dig_res (sb_v pa pp pd) (sb_top pa pp pd) (sb_n pa pp pd) (14 : Int32)))), (.int (nar .char (dig_res (sb_v pa pp pd) (sb_top pa pp pd) (sb_n pa pp pd) (13 : Int32)))), (.int (nar .char (dig_res (sb_v pa pp pd) (sb_top pa pp pd) (sb_n pa pp pd) (12 : Int32)))), (.int (nar .char (dig_res (sb_v pa pp pd) (sb_top pa pp pd) (sb_n pa pp pd) (11 : Int32)))), (.int (nar .char (dig_res (sb_v pa pp pd) (sb_top pa pp pd) (sb_n pa pp pd) (10 : Int32)))), (.int (nar .char (dig_res (sb_v pa pp pd) (sb_top pa pp pd) (sb_n pa pp pd) (9 : Int32)))), (.int (nar .char (dig_res (sb_v pa pp pd) (sb_top pa pp pd) (sb_n pa pp pd) (8 : Int32)))), (.int (nar .char (dig_res (sb_v pa pp pd) (sb_top pa pp pd) (sb_n pa pp pd) (7 : Int32)))), (.int (nar .char (dig_res (sb_v pa pp pd) (sb_top pa pp pd) (sb_n pa pp pd) (6 : Int32)))), (.int (nar .char (dig_res (sb_v pa pp pd) (sb_top pa pp pd) (sb_n pa pp pd) (5 : Int32)))), (.int (nar .char (dig_res (sb_v pa pp pd) (sb_top pa pp pd) (sb_n pa pp pd) (4 : Int32)))), (.int (0 : Int32)), (.int (0 : Int32)), (.int (0 : Int32)), (.int (0 : Int32))] (.int (0 : Int32)) := (Arv.set A65 q65 S65 M65 H65 U65 (fits_nar_char _) W65 15 rfl (Nat.le_of_ble_eq_true rfl))
  have Z65 : n0 ≤ h65.size := Nat.le_trans Z61 (Keep.of_wr W65).1
  obtain ⟨_, _, ⟨T68, L68, k68, n68⟩, -, X68, ⟨Lc68, hQ68, l68, y68, z68⟩, st68⟩ := Jvm.LawKit.callS X65 hx (y := (⟨"com/example/kontrakt/kontrakt/input/NumeralsCountPinLaw", "dig", "(JIII[J)C"⟩ : MethodName)) hown (mvT hZ (hw _ (List.mem_of_getElem? (i := 24) rfl))) (mvT hZ (hw _ (List.mem_of_getElem? (i := 25) rfl))) (mvT hZ (hw _ (List.mem_of_getElem? (i := 26) rfl))) (mvT hZ (hw _ (List.mem_of_getElem? (i := 27) rfl))) (by decide) (backOf (W := 2) (rm_dig l Z a0 hw [] (sb_v pa pp pd) (sb_top pa pp pd) (sb_n pa pp pd) (3 : Int32) pw kp (h65) n0 Z65 q67 (by decide) (by decide)) hZ (hw _ (List.mem_of_getElem? (i := 27) rfl)) (hw _ (List.mem_of_getElem? (i := 26) rfl)) (by decide) (by decide)) (g := (mkF m 603 #[.val (.long pa), .second, .val (.int pp), s3, s4, .val (.int pd), s6, s7, s8, s9, s10, .val (.ref pw), .val (.long (sb_v pa pp pd)), .second, .val (.int (sb_n pa pp pd)), .val (.int (sb_top pa pp pd)), .val (.ref ad1), .unset, .unset, .unset, .unset, .unset, .unset, .unset, .unset] [(.ref pw), (.int (3 : Int32)), (.int (sb_n pa pp pd)), (.int (sb_top pa pp pd)), (.long (sb_v pa pp pd)), (.int (16 : Int32)), (.ref ad1)])) rfl (by rw [hml]; rfl) (argsL := [(.long (sb_v pa pp pd)), (.int (sb_top pa pp pd)), (.int (sb_n pa pp pd)), (.int (3 : Int32)), (.ref pw)]) (rest := [(.int (16 : Int32)), (.ref ad1)]) (lenOf pd_5 rfl) rfl (by show 2 * 0 + _ ≤ _; exact Nat.le_of_eq rfl) (hb hby at_603) (fun _ _ => ⟨rfl, e65, (by decide : 2 + 0 ≤ _), (by decide : 39 + 0 ≤ _)⟩)
  dsimp only [Pt.U, Pt.locs, Pt.cells, Pt.slots] at X68 l68 y68 z68 st68 hQ68
  rw [l68, y68, z68] at X68
  replace X68 : Stand _ _ _ _ _ _ _ _ _ _ _ _ 2 39 := X68
  obtain ⟨vq68, N68, e68⟩ := hQ68
  rw [vq68] at st68
  have Nn68 := Fr.app Nn65 N68
  obtain ⟨c69, A69, q69, S69, M69, H69, U69⟩ := id V65
  obtain ⟨T69, h69, X69, e69, W69, st69⟩ := stC X68 hx hZ e68 A69 (j := (16 : Int32)) (inb_of S69 ⟨(by decide : ¬ ((16 : Int32) < (0 : Int32))), (by decide : (16 : Int32) < (20 : Int32))⟩) (g := (mkF m 606 #[.val (.long pa), .second, .val (.int pp), s3, s4, .val (.int pd), s6, s7, s8, s9, s10, .val (.ref pw), .val (.long (sb_v pa pp pd)), .second, .val (.int (sb_n pa pp pd)), .val (.int (sb_top pa pp pd)), .val (.ref ad1), .unset, .unset, .unset, .unset, .unset, .unset, .unset, .unset] [(.int (dig_res (sb_v pa pp pd) (sb_top pa pp pd) (sb_n pa pp pd) (3 : Int32))), (.int (16 : Int32)), (.ref ad1)])) rfl rfl (hb hby at_606)
  have Nn69 := Fr.snoc X69 Nn68 gn1
  have q70 : Old Z n0 h69 := (q66.wr W69 gn1)
  have q71 : Arv Z h69 pw kp .long (19 : Int32) own_pwv (.long (0 : Int64)) := (q67.other W69 ne_pw_ad1)
  have V69 : Arv Z h69 ad1 kA1 .char (20 : Int32) [(.int (nar .char (dig_res (sb_v pa pp pd) (sb_top pa pp pd) (sb_n pa pp pd) (19 : Int32)))), (.int (nar .char (dig_res (sb_v pa pp pd) (sb_top pa pp pd) (sb_n pa pp pd) (18 : Int32)))), (.int (nar .char (dig_res (sb_v pa pp pd) (sb_top pa pp pd) (sb_n pa pp pd) (17 : Int32)))), (.int (nar .char (dig_res (sb_v pa pp pd) (sb_top pa pp pd) (sb_n pa pp pd) (16 : Int32)))), (.int (nar .char (dig_res (sb_v pa pp pd) (sb_top pa pp pd) (sb_n pa pp pd) (15 : Int32)))), (.int (nar .char (dig_res (sb_v pa pp pd) (sb_top pa pp pd) (sb_n pa pp pd) (14 : Int32)))), (.int (nar .char (dig_res (sb_v pa pp pd) (sb_top pa pp pd) (sb_n pa pp pd) (13 : Int32)))), (.int (nar .char (dig_res (sb_v pa pp pd) (sb_top pa pp pd) (sb_n pa pp pd) (12 : Int32)))), (.int (nar .char (dig_res (sb_v pa pp pd) (sb_top pa pp pd) (sb_n pa pp pd) (11 : Int32)))), (.int (nar .char (dig_res (sb_v pa pp pd) (sb_top pa pp pd) (sb_n pa pp pd) (10 : Int32)))), (.int (nar .char (dig_res (sb_v pa pp pd) (sb_top pa pp pd) (sb_n pa pp pd) (9 : Int32)))), (.int (nar .char (dig_res (sb_v pa pp pd) (sb_top pa pp pd) (sb_n pa pp pd) (8 : Int32)))), (.int (nar .char (dig_res (sb_v pa pp pd) (sb_top pa pp pd) (sb_n pa pp pd) (7 : Int32)))), (.int (nar .char (dig_res (sb_v pa pp pd) (sb_top pa pp pd) (sb_n pa pp pd) (6 : Int32)))), (.int (nar .char (dig_res (sb_v pa pp pd) (sb_top pa pp pd) (sb_n pa pp pd) (5 : Int32)))), (.int (nar .char (dig_res (sb_v pa pp pd) (sb_top pa pp pd) (sb_n pa pp pd) (4 : Int32)))), (.int (nar .char (dig_res (sb_v pa pp pd) (sb_top pa pp pd) (sb_n pa pp pd) (3 : Int32)))), (.int (0 : Int32)), (.int (0 : Int32)), (.int (0 : Int32))] (.int (0 : Int32)) := (Arv.set A69 q69 S69 M69 H69 U69 (fits_nar_char _) W69 16 rfl (Nat.le_of_ble_eq_true rfl))
  have Z69 : n0 ≤ h69.size := Nat.le_trans Z65 (Keep.of_wr W69).1
  obtain ⟨_, _, ⟨T72, L72, k72, n72⟩, -, X72, ⟨Lc72, hQ72, l72, y72, z72⟩, st72⟩ := Jvm.LawKit.callS X69 hx (y := (⟨"com/example/kontrakt/kontrakt/input/NumeralsCountPinLaw", "dig", "(JIII[J)C"⟩ : MethodName)) hown (mvT hZ (hw _ (List.mem_of_getElem? (i := 24) rfl))) (mvT hZ (hw _ (List.mem_of_getElem? (i := 25) rfl))) (mvT hZ (hw _ (List.mem_of_getElem? (i := 26) rfl))) (mvT hZ (hw _ (List.mem_of_getElem? (i := 27) rfl))) (by decide) (backOf (W := 2) (rm_dig l Z a0 hw [] (sb_v pa pp pd) (sb_top pa pp pd) (sb_n pa pp pd) (2 : Int32) pw kp (h69) n0 Z69 q71 (by decide) (by decide)) hZ (hw _ (List.mem_of_getElem? (i := 27) rfl)) (hw _ (List.mem_of_getElem? (i := 26) rfl)) (by decide) (by decide)) (g := (mkF m 620 #[.val (.long pa), .second, .val (.int pp), s3, s4, .val (.int pd), s6, s7, s8, s9, s10, .val (.ref pw), .val (.long (sb_v pa pp pd)), .second, .val (.int (sb_n pa pp pd)), .val (.int (sb_top pa pp pd)), .val (.ref ad1), .unset, .unset, .unset, .unset, .unset, .unset, .unset, .unset] [(.ref pw), (.int (2 : Int32)), (.int (sb_n pa pp pd)), (.int (sb_top pa pp pd)), (.long (sb_v pa pp pd)), (.int (17 : Int32)), (.ref ad1)])) rfl (by rw [hml]; rfl) (argsL := [(.long (sb_v pa pp pd)), (.int (sb_top pa pp pd)), (.int (sb_n pa pp pd)), (.int (2 : Int32)), (.ref pw)]) (rest := [(.int (17 : Int32)), (.ref ad1)]) (lenOf pd_5 rfl) rfl (by show 2 * 0 + _ ≤ _; exact Nat.le_of_eq rfl) (hb hby at_620) (fun _ _ => ⟨rfl, e69, (by decide : 2 + 0 ≤ _), (by decide : 39 + 0 ≤ _)⟩)
  dsimp only [Pt.U, Pt.locs, Pt.cells, Pt.slots] at X72 l72 y72 z72 st72 hQ72
  rw [l72, y72, z72] at X72
  replace X72 : Stand _ _ _ _ _ _ _ _ _ _ _ _ 2 39 := X72
  obtain ⟨vq72, N72, e72⟩ := hQ72
  rw [vq72] at st72
  have Nn72 := Fr.app Nn69 N72
  obtain ⟨c73, A73, q73, S73, M73, H73, U73⟩ := id V69
  obtain ⟨T73, h73, X73, e73, W73, st73⟩ := stC X72 hx hZ e72 A73 (j := (17 : Int32)) (inb_of S73 ⟨(by decide : ¬ ((17 : Int32) < (0 : Int32))), (by decide : (17 : Int32) < (20 : Int32))⟩) (g := (mkF m 623 #[.val (.long pa), .second, .val (.int pp), s3, s4, .val (.int pd), s6, s7, s8, s9, s10, .val (.ref pw), .val (.long (sb_v pa pp pd)), .second, .val (.int (sb_n pa pp pd)), .val (.int (sb_top pa pp pd)), .val (.ref ad1), .unset, .unset, .unset, .unset, .unset, .unset, .unset, .unset] [(.int (dig_res (sb_v pa pp pd) (sb_top pa pp pd) (sb_n pa pp pd) (2 : Int32))), (.int (17 : Int32)), (.ref ad1)])) rfl rfl (hb hby at_623)
  have Nn73 := Fr.snoc X73 Nn72 gn1
  have q74 : Old Z n0 h73 := (q70.wr W73 gn1)
  have q75 : Arv Z h73 pw kp .long (19 : Int32) own_pwv (.long (0 : Int64)) := (q71.other W73 ne_pw_ad1)
  have V73 : Arv Z h73 ad1 kA1 .char (20 : Int32) [(.int (nar .char (dig_res (sb_v pa pp pd) (sb_top pa pp pd) (sb_n pa pp pd) (19 : Int32)))), (.int (nar .char (dig_res (sb_v pa pp pd) (sb_top pa pp pd) (sb_n pa pp pd) (18 : Int32)))), (.int (nar .char (dig_res (sb_v pa pp pd) (sb_top pa pp pd) (sb_n pa pp pd) (17 : Int32)))), (.int (nar .char (dig_res (sb_v pa pp pd) (sb_top pa pp pd) (sb_n pa pp pd) (16 : Int32)))), (.int (nar .char (dig_res (sb_v pa pp pd) (sb_top pa pp pd) (sb_n pa pp pd) (15 : Int32)))), (.int (nar .char (dig_res (sb_v pa pp pd) (sb_top pa pp pd) (sb_n pa pp pd) (14 : Int32)))), (.int (nar .char (dig_res (sb_v pa pp pd) (sb_top pa pp pd) (sb_n pa pp pd) (13 : Int32)))), (.int (nar .char (dig_res (sb_v pa pp pd) (sb_top pa pp pd) (sb_n pa pp pd) (12 : Int32)))), (.int (nar .char (dig_res (sb_v pa pp pd) (sb_top pa pp pd) (sb_n pa pp pd) (11 : Int32)))), (.int (nar .char (dig_res (sb_v pa pp pd) (sb_top pa pp pd) (sb_n pa pp pd) (10 : Int32)))), (.int (nar .char (dig_res (sb_v pa pp pd) (sb_top pa pp pd) (sb_n pa pp pd) (9 : Int32)))), (.int (nar .char (dig_res (sb_v pa pp pd) (sb_top pa pp pd) (sb_n pa pp pd) (8 : Int32)))), (.int (nar .char (dig_res (sb_v pa pp pd) (sb_top pa pp pd) (sb_n pa pp pd) (7 : Int32)))), (.int (nar .char (dig_res (sb_v pa pp pd) (sb_top pa pp pd) (sb_n pa pp pd) (6 : Int32)))), (.int (nar .char (dig_res (sb_v pa pp pd) (sb_top pa pp pd) (sb_n pa pp pd) (5 : Int32)))), (.int (nar .char (dig_res (sb_v pa pp pd) (sb_top pa pp pd) (sb_n pa pp pd) (4 : Int32)))), (.int (nar .char (dig_res (sb_v pa pp pd) (sb_top pa pp pd) (sb_n pa pp pd) (3 : Int32)))), (.int (nar .char (dig_res (sb_v pa pp pd) (sb_top pa pp pd) (sb_n pa pp pd) (2 : Int32)))), (.int (0 : Int32)), (.int (0 : Int32))] (.int (0 : Int32)) := (Arv.set A73 q73 S73 M73 H73 U73 (fits_nar_char _) W73 17 rfl (Nat.le_of_ble_eq_true rfl))
  have Z73 : n0 ≤ h73.size := Nat.le_trans Z69 (Keep.of_wr W73).1
  obtain ⟨_, _, ⟨T76, L76, k76, n76⟩, -, X76, ⟨Lc76, hQ76, l76, y76, z76⟩, st76⟩ := Jvm.LawKit.callS X73 hx (y := (⟨"com/example/kontrakt/kontrakt/input/NumeralsCountPinLaw", "dig", "(JIII[J)C"⟩ : MethodName)) hown (mvT hZ (hw _ (List.mem_of_getElem? (i := 24) rfl))) (mvT hZ (hw _ (List.mem_of_getElem? (i := 25) rfl))) (mvT hZ (hw _ (List.mem_of_getElem? (i := 26) rfl))) (mvT hZ (hw _ (List.mem_of_getElem? (i := 27) rfl))) (by decide) (backOf (W := 2) (rm_dig l Z a0 hw [] (sb_v pa pp pd) (sb_top pa pp pd) (sb_n pa pp pd) (1 : Int32) pw kp (h73) n0 Z73 q75 (by decide) (by decide)) hZ (hw _ (List.mem_of_getElem? (i := 27) rfl)) (hw _ (List.mem_of_getElem? (i := 26) rfl)) (by decide) (by decide)) (g := (mkF m 637 #[.val (.long pa), .second, .val (.int pp), s3, s4, .val (.int pd), s6, s7, s8, s9, s10, .val (.ref pw), .val (.long (sb_v pa pp pd)), .second, .val (.int (sb_n pa pp pd)), .val (.int (sb_top pa pp pd)), .val (.ref ad1), .unset, .unset, .unset, .unset, .unset, .unset, .unset, .unset] [(.ref pw), (.int (1 : Int32)), (.int (sb_n pa pp pd)), (.int (sb_top pa pp pd)), (.long (sb_v pa pp pd)), (.int (18 : Int32)), (.ref ad1)])) rfl (by rw [hml]; rfl) (argsL := [(.long (sb_v pa pp pd)), (.int (sb_top pa pp pd)), (.int (sb_n pa pp pd)), (.int (1 : Int32)), (.ref pw)]) (rest := [(.int (18 : Int32)), (.ref ad1)]) (lenOf pd_5 rfl) rfl (by show 2 * 0 + _ ≤ _; exact Nat.le_of_eq rfl) (hb hby at_637) (fun _ _ => ⟨rfl, e73, (by decide : 2 + 0 ≤ _), (by decide : 39 + 0 ≤ _)⟩)
  dsimp only [Pt.U, Pt.locs, Pt.cells, Pt.slots] at X76 l76 y76 z76 st76 hQ76
  rw [l76, y76, z76] at X76
  replace X76 : Stand _ _ _ _ _ _ _ _ _ _ _ _ 2 39 := X76
  obtain ⟨vq76, N76, e76⟩ := hQ76
  rw [vq76] at st76
  have Nn76 := Fr.app Nn73 N76
  obtain ⟨c77, A77, q77, S77, M77, H77, U77⟩ := id V73
  obtain ⟨T77, h77, X77, e77, W77, st77⟩ := stC X76 hx hZ e76 A77 (j := (18 : Int32)) (inb_of S77 ⟨(by decide : ¬ ((18 : Int32) < (0 : Int32))), (by decide : (18 : Int32) < (20 : Int32))⟩) (g := (mkF m 640 #[.val (.long pa), .second, .val (.int pp), s3, s4, .val (.int pd), s6, s7, s8, s9, s10, .val (.ref pw), .val (.long (sb_v pa pp pd)), .second, .val (.int (sb_n pa pp pd)), .val (.int (sb_top pa pp pd)), .val (.ref ad1), .unset, .unset, .unset, .unset, .unset, .unset, .unset, .unset] [(.int (dig_res (sb_v pa pp pd) (sb_top pa pp pd) (sb_n pa pp pd) (1 : Int32))), (.int (18 : Int32)), (.ref ad1)])) rfl rfl (hb hby at_640)
  have Nn77 := Fr.snoc X77 Nn76 gn1
  have q78 : Old Z n0 h77 := (q74.wr W77 gn1)
  have q79 : Arv Z h77 pw kp .long (19 : Int32) own_pwv (.long (0 : Int64)) := (q75.other W77 ne_pw_ad1)
  have V77 : Arv Z h77 ad1 kA1 .char (20 : Int32) [(.int (nar .char (dig_res (sb_v pa pp pd) (sb_top pa pp pd) (sb_n pa pp pd) (19 : Int32)))), (.int (nar .char (dig_res (sb_v pa pp pd) (sb_top pa pp pd) (sb_n pa pp pd) (18 : Int32)))), (.int (nar .char (dig_res (sb_v pa pp pd) (sb_top pa pp pd) (sb_n pa pp pd) (17 : Int32)))), (.int (nar .char (dig_res (sb_v pa pp pd) (sb_top pa pp pd) (sb_n pa pp pd) (16 : Int32)))), (.int (nar .char (dig_res (sb_v pa pp pd) (sb_top pa pp pd) (sb_n pa pp pd) (15 : Int32)))), (.int (nar .char (dig_res (sb_v pa pp pd) (sb_top pa pp pd) (sb_n pa pp pd) (14 : Int32)))), (.int (nar .char (dig_res (sb_v pa pp pd) (sb_top pa pp pd) (sb_n pa pp pd) (13 : Int32)))), (.int (nar .char (dig_res (sb_v pa pp pd) (sb_top pa pp pd) (sb_n pa pp pd) (12 : Int32)))), (.int (nar .char (dig_res (sb_v pa pp pd) (sb_top pa pp pd) (sb_n pa pp pd) (11 : Int32)))), (.int (nar .char (dig_res (sb_v pa pp pd) (sb_top pa pp pd) (sb_n pa pp pd) (10 : Int32)))), (.int (nar .char (dig_res (sb_v pa pp pd) (sb_top pa pp pd) (sb_n pa pp pd) (9 : Int32)))), (.int (nar .char (dig_res (sb_v pa pp pd) (sb_top pa pp pd) (sb_n pa pp pd) (8 : Int32)))), (.int (nar .char (dig_res (sb_v pa pp pd) (sb_top pa pp pd) (sb_n pa pp pd) (7 : Int32)))), (.int (nar .char (dig_res (sb_v pa pp pd) (sb_top pa pp pd) (sb_n pa pp pd) (6 : Int32)))), (.int (nar .char (dig_res (sb_v pa pp pd) (sb_top pa pp pd) (sb_n pa pp pd) (5 : Int32)))), (.int (nar .char (dig_res (sb_v pa pp pd) (sb_top pa pp pd) (sb_n pa pp pd) (4 : Int32)))), (.int (nar .char (dig_res (sb_v pa pp pd) (sb_top pa pp pd) (sb_n pa pp pd) (3 : Int32)))), (.int (nar .char (dig_res (sb_v pa pp pd) (sb_top pa pp pd) (sb_n pa pp pd) (2 : Int32)))), (.int (nar .char (dig_res (sb_v pa pp pd) (sb_top pa pp pd) (sb_n pa pp pd) (1 : Int32)))), (.int (0 : Int32))] (.int (0 : Int32)) := (Arv.set A77 q77 S77 M77 H77 U77 (fits_nar_char _) W77 18 rfl (Nat.le_of_ble_eq_true rfl))
  have Z77 : n0 ≤ h77.size := Nat.le_trans Z73 (Keep.of_wr W77).1
  obtain ⟨_, _, ⟨T80, L80, k80, n80⟩, -, X80, ⟨Lc80, hQ80, l80, y80, z80⟩, st80⟩ := Jvm.LawKit.callS X77 hx (y := (⟨"com/example/kontrakt/kontrakt/input/NumeralsCountPinLaw", "dig", "(JIII[J)C"⟩ : MethodName)) hown (mvT hZ (hw _ (List.mem_of_getElem? (i := 24) rfl))) (mvT hZ (hw _ (List.mem_of_getElem? (i := 25) rfl))) (mvT hZ (hw _ (List.mem_of_getElem? (i := 26) rfl))) (mvT hZ (hw _ (List.mem_of_getElem? (i := 27) rfl))) (by decide) (backOf (W := 2) (rm_dig l Z a0 hw [] (sb_v pa pp pd) (sb_top pa pp pd) (sb_n pa pp pd) (0 : Int32) pw kp (h77) n0 Z77 q79 (by decide) (by decide)) hZ (hw _ (List.mem_of_getElem? (i := 27) rfl)) (hw _ (List.mem_of_getElem? (i := 26) rfl)) (by decide) (by decide)) (g := (mkF m 654 #[.val (.long pa), .second, .val (.int pp), s3, s4, .val (.int pd), s6, s7, s8, s9, s10, .val (.ref pw), .val (.long (sb_v pa pp pd)), .second, .val (.int (sb_n pa pp pd)), .val (.int (sb_top pa pp pd)), .val (.ref ad1), .unset, .unset, .unset, .unset, .unset, .unset, .unset, .unset] [(.ref pw), (.int (0 : Int32)), (.int (sb_n pa pp pd)), (.int (sb_top pa pp pd)), (.long (sb_v pa pp pd)), (.int (19 : Int32)), (.ref ad1)])) rfl (by rw [hml]; rfl) (argsL := [(.long (sb_v pa pp pd)), (.int (sb_top pa pp pd)), (.int (sb_n pa pp pd)), (.int (0 : Int32)), (.ref pw)]) (rest := [(.int (19 : Int32)), (.ref ad1)]) (lenOf pd_5 rfl) rfl (by show 2 * 0 + _ ≤ _; exact Nat.le_of_eq rfl) (hb hby at_654) (fun _ _ => ⟨rfl, e77, (by decide : 2 + 0 ≤ _), (by decide : 39 + 0 ≤ _)⟩)
  dsimp only [Pt.U, Pt.locs, Pt.cells, Pt.slots] at X80 l80 y80 z80 st80 hQ80
  rw [l80, y80, z80] at X80
  replace X80 : Stand _ _ _ _ _ _ _ _ _ _ _ _ 2 39 := X80
  obtain ⟨vq80, N80, e80⟩ := hQ80
  rw [vq80] at st80
  have Nn80 := Fr.app Nn77 N80
  obtain ⟨c81, A81, q81, S81, M81, H81, U81⟩ := id V77
  obtain ⟨T81, h81, X81, e81, W81, st81⟩ := stC X80 hx hZ e80 A81 (j := (19 : Int32)) (inb_of S81 ⟨(by decide : ¬ ((19 : Int32) < (0 : Int32))), (by decide : (19 : Int32) < (20 : Int32))⟩) (g := (mkF m 657 #[.val (.long pa), .second, .val (.int pp), s3, s4, .val (.int pd), s6, s7, s8, s9, s10, .val (.ref pw), .val (.long (sb_v pa pp pd)), .second, .val (.int (sb_n pa pp pd)), .val (.int (sb_top pa pp pd)), .val (.ref ad1), .unset, .unset, .unset, .unset, .unset, .unset, .unset, .unset] [(.int (dig_res (sb_v pa pp pd) (sb_top pa pp pd) (sb_n pa pp pd) (0 : Int32))), (.int (19 : Int32)), (.ref ad1)])) rfl rfl (hb hby at_657)
  have Nn81 := Fr.snoc X81 Nn80 gn1
  have q82 : Old Z n0 h81 := (q78.wr W81 gn1)
  have q83 : Arv Z h81 pw kp .long (19 : Int32) own_pwv (.long (0 : Int64)) := (q79.other W81 ne_pw_ad1)
  have V81 : Arv Z h81 ad1 kA1 .char (20 : Int32) [(.int (nar .char (dig_res (sb_v pa pp pd) (sb_top pa pp pd) (sb_n pa pp pd) (19 : Int32)))), (.int (nar .char (dig_res (sb_v pa pp pd) (sb_top pa pp pd) (sb_n pa pp pd) (18 : Int32)))), (.int (nar .char (dig_res (sb_v pa pp pd) (sb_top pa pp pd) (sb_n pa pp pd) (17 : Int32)))), (.int (nar .char (dig_res (sb_v pa pp pd) (sb_top pa pp pd) (sb_n pa pp pd) (16 : Int32)))), (.int (nar .char (dig_res (sb_v pa pp pd) (sb_top pa pp pd) (sb_n pa pp pd) (15 : Int32)))), (.int (nar .char (dig_res (sb_v pa pp pd) (sb_top pa pp pd) (sb_n pa pp pd) (14 : Int32)))), (.int (nar .char (dig_res (sb_v pa pp pd) (sb_top pa pp pd) (sb_n pa pp pd) (13 : Int32)))), (.int (nar .char (dig_res (sb_v pa pp pd) (sb_top pa pp pd) (sb_n pa pp pd) (12 : Int32)))), (.int (nar .char (dig_res (sb_v pa pp pd) (sb_top pa pp pd) (sb_n pa pp pd) (11 : Int32)))), (.int (nar .char (dig_res (sb_v pa pp pd) (sb_top pa pp pd) (sb_n pa pp pd) (10 : Int32)))), (.int (nar .char (dig_res (sb_v pa pp pd) (sb_top pa pp pd) (sb_n pa pp pd) (9 : Int32)))), (.int (nar .char (dig_res (sb_v pa pp pd) (sb_top pa pp pd) (sb_n pa pp pd) (8 : Int32)))), (.int (nar .char (dig_res (sb_v pa pp pd) (sb_top pa pp pd) (sb_n pa pp pd) (7 : Int32)))), (.int (nar .char (dig_res (sb_v pa pp pd) (sb_top pa pp pd) (sb_n pa pp pd) (6 : Int32)))), (.int (nar .char (dig_res (sb_v pa pp pd) (sb_top pa pp pd) (sb_n pa pp pd) (5 : Int32)))), (.int (nar .char (dig_res (sb_v pa pp pd) (sb_top pa pp pd) (sb_n pa pp pd) (4 : Int32)))), (.int (nar .char (dig_res (sb_v pa pp pd) (sb_top pa pp pd) (sb_n pa pp pd) (3 : Int32)))), (.int (nar .char (dig_res (sb_v pa pp pd) (sb_top pa pp pd) (sb_n pa pp pd) (2 : Int32)))), (.int (nar .char (dig_res (sb_v pa pp pd) (sb_top pa pp pd) (sb_n pa pp pd) (1 : Int32)))), (.int (nar .char (dig_res (sb_v pa pp pd) (sb_top pa pp pd) (sb_n pa pp pd) (0 : Int32))))] (.int (0 : Int32)) := (Arv.set A81 q81 S81 M81 H81 U81 (fits_nar_char _) W81 19 rfl (Nat.le_of_ble_eq_true rfl))
  have Z81 : n0 ≤ h81.size := Nat.le_trans Z77 (Keep.of_wr W81).1
  have V84 : Arv Z h81 ad1 kA1 .char (20 : Int32) ((own_ts (sb_v pa pp pd) (sb_top pa pp pd) (sb_n pa pp pd)).map Value.int) (.int (0 : Int32)) := V81
  refine ⟨T81, _, _, ad1, kA1, X81, e81, Nn81, Z81, q82, q83, V84, gn1, ne_pw_ad1, fun target k => ?_⟩
  show Steps p.tables e below (T0.setTop (mkF m 278 #[.val (.long pa), .second, .val (.int pp), s3, s4, .val (.int pd), s6, s7, s8, s9, s10, .val (.ref pw), .unset, .unset, .unset, .unset, .unset, .unset, .unset, .unset, .unset, .unset, .unset, .unset, .unset] [])) _
  refine XT.lloadN X0.here hx rfl (hb hby at_278) rfl ?_
  show Steps p.tables e below (T0.setTop (mkF m 279 #[.val (.long pa), .second, .val (.int pp), s3, s4, .val (.int pd), s6, s7, s8, s9, s10, .val (.ref pw), .unset, .unset, .unset, .unset, .unset, .unset, .unset, .unset, .unset, .unset, .unset, .unset, .unset] [(.long pa)])) _
  refine X0.ldc2J hx hown (mvT hZ (hw _ (List.mem_of_getElem? (i := 21) rfl))) (g := (mkF m 279 #[.val (.long pa), .second, .val (.int pp), s3, s4, .val (.int pd), s6, s7, s8, s9, s10, .val (.ref pw), .unset, .unset, .unset, .unset, .unset, .unset, .unset, .unset, .unset, .unset, .unset, .unset, .unset] [(.long pa)])) rfl (hb hby at_279) ?_
  show Steps p.tables e below (T0.setTop (mkF m 282 #[.val (.long pa), .second, .val (.int pp), s3, s4, .val (.int pd), s6, s7, s8, s9, s10, .val (.ref pw), .unset, .unset, .unset, .unset, .unset, .unset, .unset, .unset, .unset, .unset, .unset, .unset, .unset] [(.long (9223372036854775807 : Int64)), (.long pa)])) _
  refine XT.land X0.here hx rfl (hb hby at_282) rfl ?_
  show Steps p.tables e below (T0.setTop (mkF m 283 #[.val (.long pa), .second, .val (.int pp), s3, s4, .val (.int pd), s6, s7, s8, s9, s10, .val (.ref pw), .unset, .unset, .unset, .unset, .unset, .unset, .unset, .unset, .unset, .unset, .unset, .unset, .unset] [(.long (pa &&& (9223372036854775807 : Int64)))])) _
  refine XT.lstore X0.here hx rfl (hb hby at_283) rfl (l' := #[.val (.long pa), .second, .val (.int pp), s3, s4, .val (.int pd), s6, s7, s8, s9, s10, .val (.ref pw), .val (.long (sb_v pa pp pd)), .second, .unset, .unset, .unset, .unset, .unset, .unset, .unset, .unset, .unset, .unset, .unset]) rfl ?_
  show Steps p.tables e below (T0.setTop (mkF m 285 #[.val (.long pa), .second, .val (.int pp), s3, s4, .val (.int pd), s6, s7, s8, s9, s10, .val (.ref pw), .val (.long (sb_v pa pp pd)), .second, .unset, .unset, .unset, .unset, .unset, .unset, .unset, .unset, .unset, .unset, .unset] [])) _
  refine XS.iloadN X0.here hx rfl (hb hby at_285) rfl ?_
  show Steps p.tables e below (T0.setTop (mkF m 286 #[.val (.long pa), .second, .val (.int pp), s3, s4, .val (.int pd), s6, s7, s8, s9, s10, .val (.ref pw), .val (.long (sb_v pa pp pd)), .second, .unset, .unset, .unset, .unset, .unset, .unset, .unset, .unset, .unset, .unset, .unset] [(.int pp)])) _
  refine X0.ldcI hx hown (mvT hZ (hw _ (List.mem_of_getElem? (i := 22) rfl))) (g := (mkF m 286 #[.val (.long pa), .second, .val (.int pp), s3, s4, .val (.int pd), s6, s7, s8, s9, s10, .val (.ref pw), .val (.long (sb_v pa pp pd)), .second, .unset, .unset, .unset, .unset, .unset, .unset, .unset, .unset, .unset, .unset, .unset] [(.int pp)])) rfl (hb hby at_286) ?_
  show Steps p.tables e below (T0.setTop (mkF m 288 #[.val (.long pa), .second, .val (.int pp), s3, s4, .val (.int pd), s6, s7, s8, s9, s10, .val (.ref pw), .val (.long (sb_v pa pp pd)), .second, .unset, .unset, .unset, .unset, .unset, .unset, .unset, .unset, .unset, .unset, .unset] [(.int (2147483647 : Int32)), (.int pp)])) _
  refine XS.iand X0.here hx rfl (hb hby at_288) rfl ?_
  show Steps p.tables e below (T0.setTop (mkF m 289 #[.val (.long pa), .second, .val (.int pp), s3, s4, .val (.int pd), s6, s7, s8, s9, s10, .val (.ref pw), .val (.long (sb_v pa pp pd)), .second, .unset, .unset, .unset, .unset, .unset, .unset, .unset, .unset, .unset, .unset, .unset] [(.int (pp &&& (2147483647 : Int32)))])) _
  refine XS.bipush X0.here hx rfl (hb hby at_289) ?_
  show Steps p.tables e below (T0.setTop (mkF m 291 #[.val (.long pa), .second, .val (.int pp), s3, s4, .val (.int pd), s6, s7, s8, s9, s10, .val (.ref pw), .val (.long (sb_v pa pp pd)), .second, .unset, .unset, .unset, .unset, .unset, .unset, .unset, .unset, .unset, .unset, .unset] [(.int (21 : Int32)), (.int (pp &&& (2147483647 : Int32)))])) _
  refine XS.irem X0.here hx rfl (hb hby at_291) rfl (by decide) ?_
  show Steps p.tables e below (T0.setTop (mkF m 292 #[.val (.long pa), .second, .val (.int pp), s3, s4, .val (.int pd), s6, s7, s8, s9, s10, .val (.ref pw), .val (.long (sb_v pa pp pd)), .second, .unset, .unset, .unset, .unset, .unset, .unset, .unset, .unset, .unset, .unset, .unset] [(.int ((pp &&& (2147483647 : Int32)) - (pp &&& (2147483647 : Int32)) / (21 : Int32) * (21 : Int32)))])) _
  refine XS.istore X0.here hx rfl (hb hby at_292) rfl (l' := #[.val (.long pa), .second, .val (.int pp), s3, s4, .val (.int pd), s6, s7, s8, s9, s10, .val (.ref pw), .val (.long (sb_v pa pp pd)), .second, .val (.int (sb_n pa pp pd)), .unset, .unset, .unset, .unset, .unset, .unset, .unset, .unset, .unset, .unset]) rfl ?_
  show Steps p.tables e below (T0.setTop (mkF m 294 #[.val (.long pa), .second, .val (.int pp), s3, s4, .val (.int pd), s6, s7, s8, s9, s10, .val (.ref pw), .val (.long (sb_v pa pp pd)), .second, .val (.int (sb_n pa pp pd)), .unset, .unset, .unset, .unset, .unset, .unset, .unset, .unset, .unset, .unset] [])) _
  refine XS.iload X0.here hx rfl (hb hby at_294) rfl ?_
  show Steps p.tables e below (T0.setTop (mkF m 296 #[.val (.long pa), .second, .val (.int pp), s3, s4, .val (.int pd), s6, s7, s8, s9, s10, .val (.ref pw), .val (.long (sb_v pa pp pd)), .second, .val (.int (sb_n pa pp pd)), .unset, .unset, .unset, .unset, .unset, .unset, .unset, .unset, .unset, .unset] [(.int pd)])) _
  refine X0.ldcI hx hown (mvT hZ (hw _ (List.mem_of_getElem? (i := 22) rfl))) (g := (mkF m 296 #[.val (.long pa), .second, .val (.int pp), s3, s4, .val (.int pd), s6, s7, s8, s9, s10, .val (.ref pw), .val (.long (sb_v pa pp pd)), .second, .val (.int (sb_n pa pp pd)), .unset, .unset, .unset, .unset, .unset, .unset, .unset, .unset, .unset, .unset] [(.int pd)])) rfl (hb hby at_296) ?_
  show Steps p.tables e below (T0.setTop (mkF m 298 #[.val (.long pa), .second, .val (.int pp), s3, s4, .val (.int pd), s6, s7, s8, s9, s10, .val (.ref pw), .val (.long (sb_v pa pp pd)), .second, .val (.int (sb_n pa pp pd)), .unset, .unset, .unset, .unset, .unset, .unset, .unset, .unset, .unset, .unset] [(.int (2147483647 : Int32)), (.int pd)])) _
  refine XS.iand X0.here hx rfl (hb hby at_298) rfl ?_
  show Steps p.tables e below (T0.setTop (mkF m 299 #[.val (.long pa), .second, .val (.int pp), s3, s4, .val (.int pd), s6, s7, s8, s9, s10, .val (.ref pw), .val (.long (sb_v pa pp pd)), .second, .val (.int (sb_n pa pp pd)), .unset, .unset, .unset, .unset, .unset, .unset, .unset, .unset, .unset, .unset] [(.int (pd &&& (2147483647 : Int32)))])) _
  refine XS.bipush X0.here hx rfl (hb hby at_299) ?_
  show Steps p.tables e below (T0.setTop (mkF m 301 #[.val (.long pa), .second, .val (.int pp), s3, s4, .val (.int pd), s6, s7, s8, s9, s10, .val (.ref pw), .val (.long (sb_v pa pp pd)), .second, .val (.int (sb_n pa pp pd)), .unset, .unset, .unset, .unset, .unset, .unset, .unset, .unset, .unset, .unset] [(.int (10 : Int32)), (.int (pd &&& (2147483647 : Int32)))])) _
  refine XS.irem X0.here hx rfl (hb hby at_301) rfl (by decide) ?_
  show Steps p.tables e below (T0.setTop (mkF m 302 #[.val (.long pa), .second, .val (.int pp), s3, s4, .val (.int pd), s6, s7, s8, s9, s10, .val (.ref pw), .val (.long (sb_v pa pp pd)), .second, .val (.int (sb_n pa pp pd)), .unset, .unset, .unset, .unset, .unset, .unset, .unset, .unset, .unset, .unset] [(.int ((pd &&& (2147483647 : Int32)) - (pd &&& (2147483647 : Int32)) / (10 : Int32) * (10 : Int32)))])) _
  refine XS.istore X0.here hx rfl (hb hby at_302) rfl (l' := #[.val (.long pa), .second, .val (.int pp), s3, s4, .val (.int pd), s6, s7, s8, s9, s10, .val (.ref pw), .val (.long (sb_v pa pp pd)), .second, .val (.int (sb_n pa pp pd)), .val (.int (sb_top pa pp pd)), .unset, .unset, .unset, .unset, .unset, .unset, .unset, .unset, .unset]) rfl ?_
  show Steps p.tables e below (T0.setTop (mkF m 304 #[.val (.long pa), .second, .val (.int pp), s3, s4, .val (.int pd), s6, s7, s8, s9, s10, .val (.ref pw), .val (.long (sb_v pa pp pd)), .second, .val (.int (sb_n pa pp pd)), .val (.int (sb_top pa pp pd)), .unset, .unset, .unset, .unset, .unset, .unset, .unset, .unset, .unset] [])) _
  refine XS.bipush X0.here hx rfl (hb hby at_304) ?_
  show Steps p.tables e below (T0.setTop (mkF m 306 #[.val (.long pa), .second, .val (.int pp), s3, s4, .val (.int pd), s6, s7, s8, s9, s10, .val (.ref pw), .val (.long (sb_v pa pp pd)), .second, .val (.int (sb_n pa pp pd)), .val (.int (sb_top pa pp pd)), .unset, .unset, .unset, .unset, .unset, .unset, .unset, .unset, .unset] [(.int (20 : Int32))])) _
  refine st1 _ ?_
  show Steps p.tables e below (T1.setTop (mkF m 308 #[.val (.long pa), .second, .val (.int pp), s3, s4, .val (.int pd), s6, s7, s8, s9, s10, .val (.ref pw), .val (.long (sb_v pa pp pd)), .second, .val (.int (sb_n pa pp pd)), .val (.int (sb_top pa pp pd)), .unset, .unset, .unset, .unset, .unset, .unset, .unset, .unset, .unset] [(.ref ad1)])) _
  refine XS.astore X1.here hx rfl (hb hby at_308) rfl rfl (l' := #[.val (.long pa), .second, .val (.int pp), s3, s4, .val (.int pd), s6, s7, s8, s9, s10, .val (.ref pw), .val (.long (sb_v pa pp pd)), .second, .val (.int (sb_n pa pp pd)), .val (.int (sb_top pa pp pd)), .val (.ref ad1), .unset, .unset, .unset, .unset, .unset, .unset, .unset, .unset]) rfl ?_
  show Steps p.tables e below (T1.setTop (mkF m 310 #[.val (.long pa), .second, .val (.int pp), s3, s4, .val (.int pd), s6, s7, s8, s9, s10, .val (.ref pw), .val (.long (sb_v pa pp pd)), .second, .val (.int (sb_n pa pp pd)), .val (.int (sb_top pa pp pd)), .val (.ref ad1), .unset, .unset, .unset, .unset, .unset, .unset, .unset, .unset] [])) _
  refine XS.aload X1.here hx rfl (hb hby at_310) rfl rfl ?_
  show Steps p.tables e below (T1.setTop (mkF m 312 #[.val (.long pa), .second, .val (.int pp), s3, s4, .val (.int pd), s6, s7, s8, s9, s10, .val (.ref pw), .val (.long (sb_v pa pp pd)), .second, .val (.int (sb_n pa pp pd)), .val (.int (sb_top pa pp pd)), .val (.ref ad1), .unset, .unset, .unset, .unset, .unset, .unset, .unset, .unset] [(.ref ad1)])) _
  refine XS.iconst X1.here hx rfl (hb hby at_312) ?_
  show Steps p.tables e below (T1.setTop (mkF m 313 #[.val (.long pa), .second, .val (.int pp), s3, s4, .val (.int pd), s6, s7, s8, s9, s10, .val (.ref pw), .val (.long (sb_v pa pp pd)), .second, .val (.int (sb_n pa pp pd)), .val (.int (sb_top pa pp pd)), .val (.ref ad1), .unset, .unset, .unset, .unset, .unset, .unset, .unset, .unset] [(.int (0 : Int32)), (.ref ad1)])) _
  refine XT.lload X1.here hx rfl (hb hby at_313) rfl ?_
  show Steps p.tables e below (T1.setTop (mkF m 315 #[.val (.long pa), .second, .val (.int pp), s3, s4, .val (.int pd), s6, s7, s8, s9, s10, .val (.ref pw), .val (.long (sb_v pa pp pd)), .second, .val (.int (sb_n pa pp pd)), .val (.int (sb_top pa pp pd)), .val (.ref ad1), .unset, .unset, .unset, .unset, .unset, .unset, .unset, .unset] [(.long (sb_v pa pp pd)), (.int (0 : Int32)), (.ref ad1)])) _
  refine XS.iload X1.here hx rfl (hb hby at_315) rfl ?_
  show Steps p.tables e below (T1.setTop (mkF m 317 #[.val (.long pa), .second, .val (.int pp), s3, s4, .val (.int pd), s6, s7, s8, s9, s10, .val (.ref pw), .val (.long (sb_v pa pp pd)), .second, .val (.int (sb_n pa pp pd)), .val (.int (sb_top pa pp pd)), .val (.ref ad1), .unset, .unset, .unset, .unset, .unset, .unset, .unset, .unset] [(.int (sb_top pa pp pd)), (.long (sb_v pa pp pd)), (.int (0 : Int32)), (.ref ad1)])) _
  refine XS.iload X1.here hx rfl (hb hby at_317) rfl ?_
  show Steps p.tables e below (T1.setTop (mkF m 319 #[.val (.long pa), .second, .val (.int pp), s3, s4, .val (.int pd), s6, s7, s8, s9, s10, .val (.ref pw), .val (.long (sb_v pa pp pd)), .second, .val (.int (sb_n pa pp pd)), .val (.int (sb_top pa pp pd)), .val (.ref ad1), .unset, .unset, .unset, .unset, .unset, .unset, .unset, .unset] [(.int (sb_n pa pp pd)), (.int (sb_top pa pp pd)), (.long (sb_v pa pp pd)), (.int (0 : Int32)), (.ref ad1)])) _
  refine XS.bipush X1.here hx rfl (hb hby at_319) ?_
  show Steps p.tables e below (T1.setTop (mkF m 321 #[.val (.long pa), .second, .val (.int pp), s3, s4, .val (.int pd), s6, s7, s8, s9, s10, .val (.ref pw), .val (.long (sb_v pa pp pd)), .second, .val (.int (sb_n pa pp pd)), .val (.int (sb_top pa pp pd)), .val (.ref ad1), .unset, .unset, .unset, .unset, .unset, .unset, .unset, .unset] [(.int (19 : Int32)), (.int (sb_n pa pp pd)), (.int (sb_top pa pp pd)), (.long (sb_v pa pp pd)), (.int (0 : Int32)), (.ref ad1)])) _
  refine XS.aload X1.here hx rfl (hb hby at_321) rfl rfl ?_
  show Steps p.tables e below (T1.setTop (mkF m 323 #[.val (.long pa), .second, .val (.int pp), s3, s4, .val (.int pd), s6, s7, s8, s9, s10, .val (.ref pw), .val (.long (sb_v pa pp pd)), .second, .val (.int (sb_n pa pp pd)), .val (.int (sb_top pa pp pd)), .val (.ref ad1), .unset, .unset, .unset, .unset, .unset, .unset, .unset, .unset] [(.ref pw), (.int (19 : Int32)), (.int (sb_n pa pp pd)), (.int (sb_top pa pp pd)), (.long (sb_v pa pp pd)), (.int (0 : Int32)), (.ref ad1)])) _
  refine st4 _ ?_
  show Steps p.tables e below (T4.setTop (mkF m 326 #[.val (.long pa), .second, .val (.int pp), s3, s4, .val (.int pd), s6, s7, s8, s9, s10, .val (.ref pw), .val (.long (sb_v pa pp pd)), .second, .val (.int (sb_n pa pp pd)), .val (.int (sb_top pa pp pd)), .val (.ref ad1), .unset, .unset, .unset, .unset, .unset, .unset, .unset, .unset] [(.int (dig_res (sb_v pa pp pd) (sb_top pa pp pd) (sb_n pa pp pd) (19 : Int32))), (.int (0 : Int32)), (.ref ad1)])) _
  refine st5 _ ?_
  show Steps p.tables e below (T5.setTop (mkF m 327 #[.val (.long pa), .second, .val (.int pp), s3, s4, .val (.int pd), s6, s7, s8, s9, s10, .val (.ref pw), .val (.long (sb_v pa pp pd)), .second, .val (.int (sb_n pa pp pd)), .val (.int (sb_top pa pp pd)), .val (.ref ad1), .unset, .unset, .unset, .unset, .unset, .unset, .unset, .unset] [])) _
  refine XS.aload X5.here hx rfl (hb hby at_327) rfl rfl ?_
  show Steps p.tables e below (T5.setTop (mkF m 329 #[.val (.long pa), .second, .val (.int pp), s3, s4, .val (.int pd), s6, s7, s8, s9, s10, .val (.ref pw), .val (.long (sb_v pa pp pd)), .second, .val (.int (sb_n pa pp pd)), .val (.int (sb_top pa pp pd)), .val (.ref ad1), .unset, .unset, .unset, .unset, .unset, .unset, .unset, .unset] [(.ref ad1)])) _
  refine XS.iconst X5.here hx rfl (hb hby at_329) ?_
  show Steps p.tables e below (T5.setTop (mkF m 330 #[.val (.long pa), .second, .val (.int pp), s3, s4, .val (.int pd), s6, s7, s8, s9, s10, .val (.ref pw), .val (.long (sb_v pa pp pd)), .second, .val (.int (sb_n pa pp pd)), .val (.int (sb_top pa pp pd)), .val (.ref ad1), .unset, .unset, .unset, .unset, .unset, .unset, .unset, .unset] [(.int (1 : Int32)), (.ref ad1)])) _
  refine XT.lload X5.here hx rfl (hb hby at_330) rfl ?_
  show Steps p.tables e below (T5.setTop (mkF m 332 #[.val (.long pa), .second, .val (.int pp), s3, s4, .val (.int pd), s6, s7, s8, s9, s10, .val (.ref pw), .val (.long (sb_v pa pp pd)), .second, .val (.int (sb_n pa pp pd)), .val (.int (sb_top pa pp pd)), .val (.ref ad1), .unset, .unset, .unset, .unset, .unset, .unset, .unset, .unset] [(.long (sb_v pa pp pd)), (.int (1 : Int32)), (.ref ad1)])) _
  refine XS.iload X5.here hx rfl (hb hby at_332) rfl ?_
  show Steps p.tables e below (T5.setTop (mkF m 334 #[.val (.long pa), .second, .val (.int pp), s3, s4, .val (.int pd), s6, s7, s8, s9, s10, .val (.ref pw), .val (.long (sb_v pa pp pd)), .second, .val (.int (sb_n pa pp pd)), .val (.int (sb_top pa pp pd)), .val (.ref ad1), .unset, .unset, .unset, .unset, .unset, .unset, .unset, .unset] [(.int (sb_top pa pp pd)), (.long (sb_v pa pp pd)), (.int (1 : Int32)), (.ref ad1)])) _
  refine XS.iload X5.here hx rfl (hb hby at_334) rfl ?_
  show Steps p.tables e below (T5.setTop (mkF m 336 #[.val (.long pa), .second, .val (.int pp), s3, s4, .val (.int pd), s6, s7, s8, s9, s10, .val (.ref pw), .val (.long (sb_v pa pp pd)), .second, .val (.int (sb_n pa pp pd)), .val (.int (sb_top pa pp pd)), .val (.ref ad1), .unset, .unset, .unset, .unset, .unset, .unset, .unset, .unset] [(.int (sb_n pa pp pd)), (.int (sb_top pa pp pd)), (.long (sb_v pa pp pd)), (.int (1 : Int32)), (.ref ad1)])) _
  refine XS.bipush X5.here hx rfl (hb hby at_336) ?_
  show Steps p.tables e below (T5.setTop (mkF m 338 #[.val (.long pa), .second, .val (.int pp), s3, s4, .val (.int pd), s6, s7, s8, s9, s10, .val (.ref pw), .val (.long (sb_v pa pp pd)), .second, .val (.int (sb_n pa pp pd)), .val (.int (sb_top pa pp pd)), .val (.ref ad1), .unset, .unset, .unset, .unset, .unset, .unset, .unset, .unset] [(.int (18 : Int32)), (.int (sb_n pa pp pd)), (.int (sb_top pa pp pd)), (.long (sb_v pa pp pd)), (.int (1 : Int32)), (.ref ad1)])) _
  refine XS.aload X5.here hx rfl (hb hby at_338) rfl rfl ?_
  show Steps p.tables e below (T5.setTop (mkF m 340 #[.val (.long pa), .second, .val (.int pp), s3, s4, .val (.int pd), s6, s7, s8, s9, s10, .val (.ref pw), .val (.long (sb_v pa pp pd)), .second, .val (.int (sb_n pa pp pd)), .val (.int (sb_top pa pp pd)), .val (.ref ad1), .unset, .unset, .unset, .unset, .unset, .unset, .unset, .unset] [(.ref pw), (.int (18 : Int32)), (.int (sb_n pa pp pd)), (.int (sb_top pa pp pd)), (.long (sb_v pa pp pd)), (.int (1 : Int32)), (.ref ad1)])) _
  refine st8 _ ?_
  show Steps p.tables e below (T8.setTop (mkF m 343 #[.val (.long pa), .second, .val (.int pp), s3, s4, .val (.int pd), s6, s7, s8, s9, s10, .val (.ref pw), .val (.long (sb_v pa pp pd)), .second, .val (.int (sb_n pa pp pd)), .val (.int (sb_top pa pp pd)), .val (.ref ad1), .unset, .unset, .unset, .unset, .unset, .unset, .unset, .unset] [(.int (dig_res (sb_v pa pp pd) (sb_top pa pp pd) (sb_n pa pp pd) (18 : Int32))), (.int (1 : Int32)), (.ref ad1)])) _
  refine st9 _ ?_
  show Steps p.tables e below (T9.setTop (mkF m 344 #[.val (.long pa), .second, .val (.int pp), s3, s4, .val (.int pd), s6, s7, s8, s9, s10, .val (.ref pw), .val (.long (sb_v pa pp pd)), .second, .val (.int (sb_n pa pp pd)), .val (.int (sb_top pa pp pd)), .val (.ref ad1), .unset, .unset, .unset, .unset, .unset, .unset, .unset, .unset] [])) _
  refine XS.aload X9.here hx rfl (hb hby at_344) rfl rfl ?_
  show Steps p.tables e below (T9.setTop (mkF m 346 #[.val (.long pa), .second, .val (.int pp), s3, s4, .val (.int pd), s6, s7, s8, s9, s10, .val (.ref pw), .val (.long (sb_v pa pp pd)), .second, .val (.int (sb_n pa pp pd)), .val (.int (sb_top pa pp pd)), .val (.ref ad1), .unset, .unset, .unset, .unset, .unset, .unset, .unset, .unset] [(.ref ad1)])) _
  refine XS.iconst X9.here hx rfl (hb hby at_346) ?_
  show Steps p.tables e below (T9.setTop (mkF m 347 #[.val (.long pa), .second, .val (.int pp), s3, s4, .val (.int pd), s6, s7, s8, s9, s10, .val (.ref pw), .val (.long (sb_v pa pp pd)), .second, .val (.int (sb_n pa pp pd)), .val (.int (sb_top pa pp pd)), .val (.ref ad1), .unset, .unset, .unset, .unset, .unset, .unset, .unset, .unset] [(.int (2 : Int32)), (.ref ad1)])) _
  refine XT.lload X9.here hx rfl (hb hby at_347) rfl ?_
  show Steps p.tables e below (T9.setTop (mkF m 349 #[.val (.long pa), .second, .val (.int pp), s3, s4, .val (.int pd), s6, s7, s8, s9, s10, .val (.ref pw), .val (.long (sb_v pa pp pd)), .second, .val (.int (sb_n pa pp pd)), .val (.int (sb_top pa pp pd)), .val (.ref ad1), .unset, .unset, .unset, .unset, .unset, .unset, .unset, .unset] [(.long (sb_v pa pp pd)), (.int (2 : Int32)), (.ref ad1)])) _
  refine XS.iload X9.here hx rfl (hb hby at_349) rfl ?_
  show Steps p.tables e below (T9.setTop (mkF m 351 #[.val (.long pa), .second, .val (.int pp), s3, s4, .val (.int pd), s6, s7, s8, s9, s10, .val (.ref pw), .val (.long (sb_v pa pp pd)), .second, .val (.int (sb_n pa pp pd)), .val (.int (sb_top pa pp pd)), .val (.ref ad1), .unset, .unset, .unset, .unset, .unset, .unset, .unset, .unset] [(.int (sb_top pa pp pd)), (.long (sb_v pa pp pd)), (.int (2 : Int32)), (.ref ad1)])) _
  refine XS.iload X9.here hx rfl (hb hby at_351) rfl ?_
  show Steps p.tables e below (T9.setTop (mkF m 353 #[.val (.long pa), .second, .val (.int pp), s3, s4, .val (.int pd), s6, s7, s8, s9, s10, .val (.ref pw), .val (.long (sb_v pa pp pd)), .second, .val (.int (sb_n pa pp pd)), .val (.int (sb_top pa pp pd)), .val (.ref ad1), .unset, .unset, .unset, .unset, .unset, .unset, .unset, .unset] [(.int (sb_n pa pp pd)), (.int (sb_top pa pp pd)), (.long (sb_v pa pp pd)), (.int (2 : Int32)), (.ref ad1)])) _
  refine XS.bipush X9.here hx rfl (hb hby at_353) ?_
  show Steps p.tables e below (T9.setTop (mkF m 355 #[.val (.long pa), .second, .val (.int pp), s3, s4, .val (.int pd), s6, s7, s8, s9, s10, .val (.ref pw), .val (.long (sb_v pa pp pd)), .second, .val (.int (sb_n pa pp pd)), .val (.int (sb_top pa pp pd)), .val (.ref ad1), .unset, .unset, .unset, .unset, .unset, .unset, .unset, .unset] [(.int (17 : Int32)), (.int (sb_n pa pp pd)), (.int (sb_top pa pp pd)), (.long (sb_v pa pp pd)), (.int (2 : Int32)), (.ref ad1)])) _
  refine XS.aload X9.here hx rfl (hb hby at_355) rfl rfl ?_
  show Steps p.tables e below (T9.setTop (mkF m 357 #[.val (.long pa), .second, .val (.int pp), s3, s4, .val (.int pd), s6, s7, s8, s9, s10, .val (.ref pw), .val (.long (sb_v pa pp pd)), .second, .val (.int (sb_n pa pp pd)), .val (.int (sb_top pa pp pd)), .val (.ref ad1), .unset, .unset, .unset, .unset, .unset, .unset, .unset, .unset] [(.ref pw), (.int (17 : Int32)), (.int (sb_n pa pp pd)), (.int (sb_top pa pp pd)), (.long (sb_v pa pp pd)), (.int (2 : Int32)), (.ref ad1)])) _
  refine st12 _ ?_
  show Steps p.tables e below (T12.setTop (mkF m 360 #[.val (.long pa), .second, .val (.int pp), s3, s4, .val (.int pd), s6, s7, s8, s9, s10, .val (.ref pw), .val (.long (sb_v pa pp pd)), .second, .val (.int (sb_n pa pp pd)), .val (.int (sb_top pa pp pd)), .val (.ref ad1), .unset, .unset, .unset, .unset, .unset, .unset, .unset, .unset] [(.int (dig_res (sb_v pa pp pd) (sb_top pa pp pd) (sb_n pa pp pd) (17 : Int32))), (.int (2 : Int32)), (.ref ad1)])) _
  refine st13 _ ?_
  show Steps p.tables e below (T13.setTop (mkF m 361 #[.val (.long pa), .second, .val (.int pp), s3, s4, .val (.int pd), s6, s7, s8, s9, s10, .val (.ref pw), .val (.long (sb_v pa pp pd)), .second, .val (.int (sb_n pa pp pd)), .val (.int (sb_top pa pp pd)), .val (.ref ad1), .unset, .unset, .unset, .unset, .unset, .unset, .unset, .unset] [])) _
  refine XS.aload X13.here hx rfl (hb hby at_361) rfl rfl ?_
  show Steps p.tables e below (T13.setTop (mkF m 363 #[.val (.long pa), .second, .val (.int pp), s3, s4, .val (.int pd), s6, s7, s8, s9, s10, .val (.ref pw), .val (.long (sb_v pa pp pd)), .second, .val (.int (sb_n pa pp pd)), .val (.int (sb_top pa pp pd)), .val (.ref ad1), .unset, .unset, .unset, .unset, .unset, .unset, .unset, .unset] [(.ref ad1)])) _
  refine XS.iconst X13.here hx rfl (hb hby at_363) ?_
  show Steps p.tables e below (T13.setTop (mkF m 364 #[.val (.long pa), .second, .val (.int pp), s3, s4, .val (.int pd), s6, s7, s8, s9, s10, .val (.ref pw), .val (.long (sb_v pa pp pd)), .second, .val (.int (sb_n pa pp pd)), .val (.int (sb_top pa pp pd)), .val (.ref ad1), .unset, .unset, .unset, .unset, .unset, .unset, .unset, .unset] [(.int (3 : Int32)), (.ref ad1)])) _
  refine XT.lload X13.here hx rfl (hb hby at_364) rfl ?_
  show Steps p.tables e below (T13.setTop (mkF m 366 #[.val (.long pa), .second, .val (.int pp), s3, s4, .val (.int pd), s6, s7, s8, s9, s10, .val (.ref pw), .val (.long (sb_v pa pp pd)), .second, .val (.int (sb_n pa pp pd)), .val (.int (sb_top pa pp pd)), .val (.ref ad1), .unset, .unset, .unset, .unset, .unset, .unset, .unset, .unset] [(.long (sb_v pa pp pd)), (.int (3 : Int32)), (.ref ad1)])) _
  refine XS.iload X13.here hx rfl (hb hby at_366) rfl ?_
  show Steps p.tables e below (T13.setTop (mkF m 368 #[.val (.long pa), .second, .val (.int pp), s3, s4, .val (.int pd), s6, s7, s8, s9, s10, .val (.ref pw), .val (.long (sb_v pa pp pd)), .second, .val (.int (sb_n pa pp pd)), .val (.int (sb_top pa pp pd)), .val (.ref ad1), .unset, .unset, .unset, .unset, .unset, .unset, .unset, .unset] [(.int (sb_top pa pp pd)), (.long (sb_v pa pp pd)), (.int (3 : Int32)), (.ref ad1)])) _
  refine XS.iload X13.here hx rfl (hb hby at_368) rfl ?_
  show Steps p.tables e below (T13.setTop (mkF m 370 #[.val (.long pa), .second, .val (.int pp), s3, s4, .val (.int pd), s6, s7, s8, s9, s10, .val (.ref pw), .val (.long (sb_v pa pp pd)), .second, .val (.int (sb_n pa pp pd)), .val (.int (sb_top pa pp pd)), .val (.ref ad1), .unset, .unset, .unset, .unset, .unset, .unset, .unset, .unset] [(.int (sb_n pa pp pd)), (.int (sb_top pa pp pd)), (.long (sb_v pa pp pd)), (.int (3 : Int32)), (.ref ad1)])) _
  refine XS.bipush X13.here hx rfl (hb hby at_370) ?_
  show Steps p.tables e below (T13.setTop (mkF m 372 #[.val (.long pa), .second, .val (.int pp), s3, s4, .val (.int pd), s6, s7, s8, s9, s10, .val (.ref pw), .val (.long (sb_v pa pp pd)), .second, .val (.int (sb_n pa pp pd)), .val (.int (sb_top pa pp pd)), .val (.ref ad1), .unset, .unset, .unset, .unset, .unset, .unset, .unset, .unset] [(.int (16 : Int32)), (.int (sb_n pa pp pd)), (.int (sb_top pa pp pd)), (.long (sb_v pa pp pd)), (.int (3 : Int32)), (.ref ad1)])) _
  refine XS.aload X13.here hx rfl (hb hby at_372) rfl rfl ?_
  show Steps p.tables e below (T13.setTop (mkF m 374 #[.val (.long pa), .second, .val (.int pp), s3, s4, .val (.int pd), s6, s7, s8, s9, s10, .val (.ref pw), .val (.long (sb_v pa pp pd)), .second, .val (.int (sb_n pa pp pd)), .val (.int (sb_top pa pp pd)), .val (.ref ad1), .unset, .unset, .unset, .unset, .unset, .unset, .unset, .unset] [(.ref pw), (.int (16 : Int32)), (.int (sb_n pa pp pd)), (.int (sb_top pa pp pd)), (.long (sb_v pa pp pd)), (.int (3 : Int32)), (.ref ad1)])) _
  refine st16 _ ?_
  show Steps p.tables e below (T16.setTop (mkF m 377 #[.val (.long pa), .second, .val (.int pp), s3, s4, .val (.int pd), s6, s7, s8, s9, s10, .val (.ref pw), .val (.long (sb_v pa pp pd)), .second, .val (.int (sb_n pa pp pd)), .val (.int (sb_top pa pp pd)), .val (.ref ad1), .unset, .unset, .unset, .unset, .unset, .unset, .unset, .unset] [(.int (dig_res (sb_v pa pp pd) (sb_top pa pp pd) (sb_n pa pp pd) (16 : Int32))), (.int (3 : Int32)), (.ref ad1)])) _
  refine st17 _ ?_
  show Steps p.tables e below (T17.setTop (mkF m 378 #[.val (.long pa), .second, .val (.int pp), s3, s4, .val (.int pd), s6, s7, s8, s9, s10, .val (.ref pw), .val (.long (sb_v pa pp pd)), .second, .val (.int (sb_n pa pp pd)), .val (.int (sb_top pa pp pd)), .val (.ref ad1), .unset, .unset, .unset, .unset, .unset, .unset, .unset, .unset] [])) _
  refine XS.aload X17.here hx rfl (hb hby at_378) rfl rfl ?_
  show Steps p.tables e below (T17.setTop (mkF m 380 #[.val (.long pa), .second, .val (.int pp), s3, s4, .val (.int pd), s6, s7, s8, s9, s10, .val (.ref pw), .val (.long (sb_v pa pp pd)), .second, .val (.int (sb_n pa pp pd)), .val (.int (sb_top pa pp pd)), .val (.ref ad1), .unset, .unset, .unset, .unset, .unset, .unset, .unset, .unset] [(.ref ad1)])) _
  refine XS.iconst X17.here hx rfl (hb hby at_380) ?_
  show Steps p.tables e below (T17.setTop (mkF m 381 #[.val (.long pa), .second, .val (.int pp), s3, s4, .val (.int pd), s6, s7, s8, s9, s10, .val (.ref pw), .val (.long (sb_v pa pp pd)), .second, .val (.int (sb_n pa pp pd)), .val (.int (sb_top pa pp pd)), .val (.ref ad1), .unset, .unset, .unset, .unset, .unset, .unset, .unset, .unset] [(.int (4 : Int32)), (.ref ad1)])) _
  refine XT.lload X17.here hx rfl (hb hby at_381) rfl ?_
  show Steps p.tables e below (T17.setTop (mkF m 383 #[.val (.long pa), .second, .val (.int pp), s3, s4, .val (.int pd), s6, s7, s8, s9, s10, .val (.ref pw), .val (.long (sb_v pa pp pd)), .second, .val (.int (sb_n pa pp pd)), .val (.int (sb_top pa pp pd)), .val (.ref ad1), .unset, .unset, .unset, .unset, .unset, .unset, .unset, .unset] [(.long (sb_v pa pp pd)), (.int (4 : Int32)), (.ref ad1)])) _
  refine XS.iload X17.here hx rfl (hb hby at_383) rfl ?_
  show Steps p.tables e below (T17.setTop (mkF m 385 #[.val (.long pa), .second, .val (.int pp), s3, s4, .val (.int pd), s6, s7, s8, s9, s10, .val (.ref pw), .val (.long (sb_v pa pp pd)), .second, .val (.int (sb_n pa pp pd)), .val (.int (sb_top pa pp pd)), .val (.ref ad1), .unset, .unset, .unset, .unset, .unset, .unset, .unset, .unset] [(.int (sb_top pa pp pd)), (.long (sb_v pa pp pd)), (.int (4 : Int32)), (.ref ad1)])) _
  refine XS.iload X17.here hx rfl (hb hby at_385) rfl ?_
  show Steps p.tables e below (T17.setTop (mkF m 387 #[.val (.long pa), .second, .val (.int pp), s3, s4, .val (.int pd), s6, s7, s8, s9, s10, .val (.ref pw), .val (.long (sb_v pa pp pd)), .second, .val (.int (sb_n pa pp pd)), .val (.int (sb_top pa pp pd)), .val (.ref ad1), .unset, .unset, .unset, .unset, .unset, .unset, .unset, .unset] [(.int (sb_n pa pp pd)), (.int (sb_top pa pp pd)), (.long (sb_v pa pp pd)), (.int (4 : Int32)), (.ref ad1)])) _
  refine XS.bipush X17.here hx rfl (hb hby at_387) ?_
  show Steps p.tables e below (T17.setTop (mkF m 389 #[.val (.long pa), .second, .val (.int pp), s3, s4, .val (.int pd), s6, s7, s8, s9, s10, .val (.ref pw), .val (.long (sb_v pa pp pd)), .second, .val (.int (sb_n pa pp pd)), .val (.int (sb_top pa pp pd)), .val (.ref ad1), .unset, .unset, .unset, .unset, .unset, .unset, .unset, .unset] [(.int (15 : Int32)), (.int (sb_n pa pp pd)), (.int (sb_top pa pp pd)), (.long (sb_v pa pp pd)), (.int (4 : Int32)), (.ref ad1)])) _
  refine XS.aload X17.here hx rfl (hb hby at_389) rfl rfl ?_
  show Steps p.tables e below (T17.setTop (mkF m 391 #[.val (.long pa), .second, .val (.int pp), s3, s4, .val (.int pd), s6, s7, s8, s9, s10, .val (.ref pw), .val (.long (sb_v pa pp pd)), .second, .val (.int (sb_n pa pp pd)), .val (.int (sb_top pa pp pd)), .val (.ref ad1), .unset, .unset, .unset, .unset, .unset, .unset, .unset, .unset] [(.ref pw), (.int (15 : Int32)), (.int (sb_n pa pp pd)), (.int (sb_top pa pp pd)), (.long (sb_v pa pp pd)), (.int (4 : Int32)), (.ref ad1)])) _
  refine st20 _ ?_
  show Steps p.tables e below (T20.setTop (mkF m 394 #[.val (.long pa), .second, .val (.int pp), s3, s4, .val (.int pd), s6, s7, s8, s9, s10, .val (.ref pw), .val (.long (sb_v pa pp pd)), .second, .val (.int (sb_n pa pp pd)), .val (.int (sb_top pa pp pd)), .val (.ref ad1), .unset, .unset, .unset, .unset, .unset, .unset, .unset, .unset] [(.int (dig_res (sb_v pa pp pd) (sb_top pa pp pd) (sb_n pa pp pd) (15 : Int32))), (.int (4 : Int32)), (.ref ad1)])) _
  refine st21 _ ?_
  show Steps p.tables e below (T21.setTop (mkF m 395 #[.val (.long pa), .second, .val (.int pp), s3, s4, .val (.int pd), s6, s7, s8, s9, s10, .val (.ref pw), .val (.long (sb_v pa pp pd)), .second, .val (.int (sb_n pa pp pd)), .val (.int (sb_top pa pp pd)), .val (.ref ad1), .unset, .unset, .unset, .unset, .unset, .unset, .unset, .unset] [])) _
  refine XS.aload X21.here hx rfl (hb hby at_395) rfl rfl ?_
  show Steps p.tables e below (T21.setTop (mkF m 397 #[.val (.long pa), .second, .val (.int pp), s3, s4, .val (.int pd), s6, s7, s8, s9, s10, .val (.ref pw), .val (.long (sb_v pa pp pd)), .second, .val (.int (sb_n pa pp pd)), .val (.int (sb_top pa pp pd)), .val (.ref ad1), .unset, .unset, .unset, .unset, .unset, .unset, .unset, .unset] [(.ref ad1)])) _
  refine XS.iconst X21.here hx rfl (hb hby at_397) ?_
  show Steps p.tables e below (T21.setTop (mkF m 398 #[.val (.long pa), .second, .val (.int pp), s3, s4, .val (.int pd), s6, s7, s8, s9, s10, .val (.ref pw), .val (.long (sb_v pa pp pd)), .second, .val (.int (sb_n pa pp pd)), .val (.int (sb_top pa pp pd)), .val (.ref ad1), .unset, .unset, .unset, .unset, .unset, .unset, .unset, .unset] [(.int (5 : Int32)), (.ref ad1)])) _
  refine XT.lload X21.here hx rfl (hb hby at_398) rfl ?_
  show Steps p.tables e below (T21.setTop (mkF m 400 #[.val (.long pa), .second, .val (.int pp), s3, s4, .val (.int pd), s6, s7, s8, s9, s10, .val (.ref pw), .val (.long (sb_v pa pp pd)), .second, .val (.int (sb_n pa pp pd)), .val (.int (sb_top pa pp pd)), .val (.ref ad1), .unset, .unset, .unset, .unset, .unset, .unset, .unset, .unset] [(.long (sb_v pa pp pd)), (.int (5 : Int32)), (.ref ad1)])) _
  refine XS.iload X21.here hx rfl (hb hby at_400) rfl ?_
  show Steps p.tables e below (T21.setTop (mkF m 402 #[.val (.long pa), .second, .val (.int pp), s3, s4, .val (.int pd), s6, s7, s8, s9, s10, .val (.ref pw), .val (.long (sb_v pa pp pd)), .second, .val (.int (sb_n pa pp pd)), .val (.int (sb_top pa pp pd)), .val (.ref ad1), .unset, .unset, .unset, .unset, .unset, .unset, .unset, .unset] [(.int (sb_top pa pp pd)), (.long (sb_v pa pp pd)), (.int (5 : Int32)), (.ref ad1)])) _
  refine XS.iload X21.here hx rfl (hb hby at_402) rfl ?_
  show Steps p.tables e below (T21.setTop (mkF m 404 #[.val (.long pa), .second, .val (.int pp), s3, s4, .val (.int pd), s6, s7, s8, s9, s10, .val (.ref pw), .val (.long (sb_v pa pp pd)), .second, .val (.int (sb_n pa pp pd)), .val (.int (sb_top pa pp pd)), .val (.ref ad1), .unset, .unset, .unset, .unset, .unset, .unset, .unset, .unset] [(.int (sb_n pa pp pd)), (.int (sb_top pa pp pd)), (.long (sb_v pa pp pd)), (.int (5 : Int32)), (.ref ad1)])) _
  refine XS.bipush X21.here hx rfl (hb hby at_404) ?_
  show Steps p.tables e below (T21.setTop (mkF m 406 #[.val (.long pa), .second, .val (.int pp), s3, s4, .val (.int pd), s6, s7, s8, s9, s10, .val (.ref pw), .val (.long (sb_v pa pp pd)), .second, .val (.int (sb_n pa pp pd)), .val (.int (sb_top pa pp pd)), .val (.ref ad1), .unset, .unset, .unset, .unset, .unset, .unset, .unset, .unset] [(.int (14 : Int32)), (.int (sb_n pa pp pd)), (.int (sb_top pa pp pd)), (.long (sb_v pa pp pd)), (.int (5 : Int32)), (.ref ad1)])) _
  refine XS.aload X21.here hx rfl (hb hby at_406) rfl rfl ?_
  show Steps p.tables e below (T21.setTop (mkF m 408 #[.val (.long pa), .second, .val (.int pp), s3, s4, .val (.int pd), s6, s7, s8, s9, s10, .val (.ref pw), .val (.long (sb_v pa pp pd)), .second, .val (.int (sb_n pa pp pd)), .val (.int (sb_top pa pp pd)), .val (.ref ad1), .unset, .unset, .unset, .unset, .unset, .unset, .unset, .unset] [(.ref pw), (.int (14 : Int32)), (.int (sb_n pa pp pd)), (.int (sb_top pa pp pd)), (.long (sb_v pa pp pd)), (.int (5 : Int32)), (.ref ad1)])) _
  refine st24 _ ?_
  show Steps p.tables e below (T24.setTop (mkF m 411 #[.val (.long pa), .second, .val (.int pp), s3, s4, .val (.int pd), s6, s7, s8, s9, s10, .val (.ref pw), .val (.long (sb_v pa pp pd)), .second, .val (.int (sb_n pa pp pd)), .val (.int (sb_top pa pp pd)), .val (.ref ad1), .unset, .unset, .unset, .unset, .unset, .unset, .unset, .unset] [(.int (dig_res (sb_v pa pp pd) (sb_top pa pp pd) (sb_n pa pp pd) (14 : Int32))), (.int (5 : Int32)), (.ref ad1)])) _
  refine st25 _ ?_
  show Steps p.tables e below (T25.setTop (mkF m 412 #[.val (.long pa), .second, .val (.int pp), s3, s4, .val (.int pd), s6, s7, s8, s9, s10, .val (.ref pw), .val (.long (sb_v pa pp pd)), .second, .val (.int (sb_n pa pp pd)), .val (.int (sb_top pa pp pd)), .val (.ref ad1), .unset, .unset, .unset, .unset, .unset, .unset, .unset, .unset] [])) _
  refine XS.aload X25.here hx rfl (hb hby at_412) rfl rfl ?_
  show Steps p.tables e below (T25.setTop (mkF m 414 #[.val (.long pa), .second, .val (.int pp), s3, s4, .val (.int pd), s6, s7, s8, s9, s10, .val (.ref pw), .val (.long (sb_v pa pp pd)), .second, .val (.int (sb_n pa pp pd)), .val (.int (sb_top pa pp pd)), .val (.ref ad1), .unset, .unset, .unset, .unset, .unset, .unset, .unset, .unset] [(.ref ad1)])) _
  refine XS.bipush X25.here hx rfl (hb hby at_414) ?_
  show Steps p.tables e below (T25.setTop (mkF m 416 #[.val (.long pa), .second, .val (.int pp), s3, s4, .val (.int pd), s6, s7, s8, s9, s10, .val (.ref pw), .val (.long (sb_v pa pp pd)), .second, .val (.int (sb_n pa pp pd)), .val (.int (sb_top pa pp pd)), .val (.ref ad1), .unset, .unset, .unset, .unset, .unset, .unset, .unset, .unset] [(.int (6 : Int32)), (.ref ad1)])) _
  refine XT.lload X25.here hx rfl (hb hby at_416) rfl ?_
  show Steps p.tables e below (T25.setTop (mkF m 418 #[.val (.long pa), .second, .val (.int pp), s3, s4, .val (.int pd), s6, s7, s8, s9, s10, .val (.ref pw), .val (.long (sb_v pa pp pd)), .second, .val (.int (sb_n pa pp pd)), .val (.int (sb_top pa pp pd)), .val (.ref ad1), .unset, .unset, .unset, .unset, .unset, .unset, .unset, .unset] [(.long (sb_v pa pp pd)), (.int (6 : Int32)), (.ref ad1)])) _
  refine XS.iload X25.here hx rfl (hb hby at_418) rfl ?_
  show Steps p.tables e below (T25.setTop (mkF m 420 #[.val (.long pa), .second, .val (.int pp), s3, s4, .val (.int pd), s6, s7, s8, s9, s10, .val (.ref pw), .val (.long (sb_v pa pp pd)), .second, .val (.int (sb_n pa pp pd)), .val (.int (sb_top pa pp pd)), .val (.ref ad1), .unset, .unset, .unset, .unset, .unset, .unset, .unset, .unset] [(.int (sb_top pa pp pd)), (.long (sb_v pa pp pd)), (.int (6 : Int32)), (.ref ad1)])) _
  refine XS.iload X25.here hx rfl (hb hby at_420) rfl ?_
  show Steps p.tables e below (T25.setTop (mkF m 422 #[.val (.long pa), .second, .val (.int pp), s3, s4, .val (.int pd), s6, s7, s8, s9, s10, .val (.ref pw), .val (.long (sb_v pa pp pd)), .second, .val (.int (sb_n pa pp pd)), .val (.int (sb_top pa pp pd)), .val (.ref ad1), .unset, .unset, .unset, .unset, .unset, .unset, .unset, .unset] [(.int (sb_n pa pp pd)), (.int (sb_top pa pp pd)), (.long (sb_v pa pp pd)), (.int (6 : Int32)), (.ref ad1)])) _
  refine XS.bipush X25.here hx rfl (hb hby at_422) ?_
  show Steps p.tables e below (T25.setTop (mkF m 424 #[.val (.long pa), .second, .val (.int pp), s3, s4, .val (.int pd), s6, s7, s8, s9, s10, .val (.ref pw), .val (.long (sb_v pa pp pd)), .second, .val (.int (sb_n pa pp pd)), .val (.int (sb_top pa pp pd)), .val (.ref ad1), .unset, .unset, .unset, .unset, .unset, .unset, .unset, .unset] [(.int (13 : Int32)), (.int (sb_n pa pp pd)), (.int (sb_top pa pp pd)), (.long (sb_v pa pp pd)), (.int (6 : Int32)), (.ref ad1)])) _
  refine XS.aload X25.here hx rfl (hb hby at_424) rfl rfl ?_
  show Steps p.tables e below (T25.setTop (mkF m 426 #[.val (.long pa), .second, .val (.int pp), s3, s4, .val (.int pd), s6, s7, s8, s9, s10, .val (.ref pw), .val (.long (sb_v pa pp pd)), .second, .val (.int (sb_n pa pp pd)), .val (.int (sb_top pa pp pd)), .val (.ref ad1), .unset, .unset, .unset, .unset, .unset, .unset, .unset, .unset] [(.ref pw), (.int (13 : Int32)), (.int (sb_n pa pp pd)), (.int (sb_top pa pp pd)), (.long (sb_v pa pp pd)), (.int (6 : Int32)), (.ref ad1)])) _
  refine st28 _ ?_
  show Steps p.tables e below (T28.setTop (mkF m 429 #[.val (.long pa), .second, .val (.int pp), s3, s4, .val (.int pd), s6, s7, s8, s9, s10, .val (.ref pw), .val (.long (sb_v pa pp pd)), .second, .val (.int (sb_n pa pp pd)), .val (.int (sb_top pa pp pd)), .val (.ref ad1), .unset, .unset, .unset, .unset, .unset, .unset, .unset, .unset] [(.int (dig_res (sb_v pa pp pd) (sb_top pa pp pd) (sb_n pa pp pd) (13 : Int32))), (.int (6 : Int32)), (.ref ad1)])) _
  refine st29 _ ?_
  show Steps p.tables e below (T29.setTop (mkF m 430 #[.val (.long pa), .second, .val (.int pp), s3, s4, .val (.int pd), s6, s7, s8, s9, s10, .val (.ref pw), .val (.long (sb_v pa pp pd)), .second, .val (.int (sb_n pa pp pd)), .val (.int (sb_top pa pp pd)), .val (.ref ad1), .unset, .unset, .unset, .unset, .unset, .unset, .unset, .unset] [])) _
  refine XS.aload X29.here hx rfl (hb hby at_430) rfl rfl ?_
  show Steps p.tables e below (T29.setTop (mkF m 432 #[.val (.long pa), .second, .val (.int pp), s3, s4, .val (.int pd), s6, s7, s8, s9, s10, .val (.ref pw), .val (.long (sb_v pa pp pd)), .second, .val (.int (sb_n pa pp pd)), .val (.int (sb_top pa pp pd)), .val (.ref ad1), .unset, .unset, .unset, .unset, .unset, .unset, .unset, .unset] [(.ref ad1)])) _
  refine XS.bipush X29.here hx rfl (hb hby at_432) ?_
  show Steps p.tables e below (T29.setTop (mkF m 434 #[.val (.long pa), .second, .val (.int pp), s3, s4, .val (.int pd), s6, s7, s8, s9, s10, .val (.ref pw), .val (.long (sb_v pa pp pd)), .second, .val (.int (sb_n pa pp pd)), .val (.int (sb_top pa pp pd)), .val (.ref ad1), .unset, .unset, .unset, .unset, .unset, .unset, .unset, .unset] [(.int (7 : Int32)), (.ref ad1)])) _
  refine XT.lload X29.here hx rfl (hb hby at_434) rfl ?_
  show Steps p.tables e below (T29.setTop (mkF m 436 #[.val (.long pa), .second, .val (.int pp), s3, s4, .val (.int pd), s6, s7, s8, s9, s10, .val (.ref pw), .val (.long (sb_v pa pp pd)), .second, .val (.int (sb_n pa pp pd)), .val (.int (sb_top pa pp pd)), .val (.ref ad1), .unset, .unset, .unset, .unset, .unset, .unset, .unset, .unset] [(.long (sb_v pa pp pd)), (.int (7 : Int32)), (.ref ad1)])) _
  refine XS.iload X29.here hx rfl (hb hby at_436) rfl ?_
  show Steps p.tables e below (T29.setTop (mkF m 438 #[.val (.long pa), .second, .val (.int pp), s3, s4, .val (.int pd), s6, s7, s8, s9, s10, .val (.ref pw), .val (.long (sb_v pa pp pd)), .second, .val (.int (sb_n pa pp pd)), .val (.int (sb_top pa pp pd)), .val (.ref ad1), .unset, .unset, .unset, .unset, .unset, .unset, .unset, .unset] [(.int (sb_top pa pp pd)), (.long (sb_v pa pp pd)), (.int (7 : Int32)), (.ref ad1)])) _
  refine XS.iload X29.here hx rfl (hb hby at_438) rfl ?_
  show Steps p.tables e below (T29.setTop (mkF m 440 #[.val (.long pa), .second, .val (.int pp), s3, s4, .val (.int pd), s6, s7, s8, s9, s10, .val (.ref pw), .val (.long (sb_v pa pp pd)), .second, .val (.int (sb_n pa pp pd)), .val (.int (sb_top pa pp pd)), .val (.ref ad1), .unset, .unset, .unset, .unset, .unset, .unset, .unset, .unset] [(.int (sb_n pa pp pd)), (.int (sb_top pa pp pd)), (.long (sb_v pa pp pd)), (.int (7 : Int32)), (.ref ad1)])) _
  refine XS.bipush X29.here hx rfl (hb hby at_440) ?_
  show Steps p.tables e below (T29.setTop (mkF m 442 #[.val (.long pa), .second, .val (.int pp), s3, s4, .val (.int pd), s6, s7, s8, s9, s10, .val (.ref pw), .val (.long (sb_v pa pp pd)), .second, .val (.int (sb_n pa pp pd)), .val (.int (sb_top pa pp pd)), .val (.ref ad1), .unset, .unset, .unset, .unset, .unset, .unset, .unset, .unset] [(.int (12 : Int32)), (.int (sb_n pa pp pd)), (.int (sb_top pa pp pd)), (.long (sb_v pa pp pd)), (.int (7 : Int32)), (.ref ad1)])) _
  refine XS.aload X29.here hx rfl (hb hby at_442) rfl rfl ?_
  show Steps p.tables e below (T29.setTop (mkF m 444 #[.val (.long pa), .second, .val (.int pp), s3, s4, .val (.int pd), s6, s7, s8, s9, s10, .val (.ref pw), .val (.long (sb_v pa pp pd)), .second, .val (.int (sb_n pa pp pd)), .val (.int (sb_top pa pp pd)), .val (.ref ad1), .unset, .unset, .unset, .unset, .unset, .unset, .unset, .unset] [(.ref pw), (.int (12 : Int32)), (.int (sb_n pa pp pd)), (.int (sb_top pa pp pd)), (.long (sb_v pa pp pd)), (.int (7 : Int32)), (.ref ad1)])) _
  refine st32 _ ?_
  show Steps p.tables e below (T32.setTop (mkF m 447 #[.val (.long pa), .second, .val (.int pp), s3, s4, .val (.int pd), s6, s7, s8, s9, s10, .val (.ref pw), .val (.long (sb_v pa pp pd)), .second, .val (.int (sb_n pa pp pd)), .val (.int (sb_top pa pp pd)), .val (.ref ad1), .unset, .unset, .unset, .unset, .unset, .unset, .unset, .unset] [(.int (dig_res (sb_v pa pp pd) (sb_top pa pp pd) (sb_n pa pp pd) (12 : Int32))), (.int (7 : Int32)), (.ref ad1)])) _
  refine st33 _ ?_
  show Steps p.tables e below (T33.setTop (mkF m 448 #[.val (.long pa), .second, .val (.int pp), s3, s4, .val (.int pd), s6, s7, s8, s9, s10, .val (.ref pw), .val (.long (sb_v pa pp pd)), .second, .val (.int (sb_n pa pp pd)), .val (.int (sb_top pa pp pd)), .val (.ref ad1), .unset, .unset, .unset, .unset, .unset, .unset, .unset, .unset] [])) _
  refine XS.aload X33.here hx rfl (hb hby at_448) rfl rfl ?_
  show Steps p.tables e below (T33.setTop (mkF m 450 #[.val (.long pa), .second, .val (.int pp), s3, s4, .val (.int pd), s6, s7, s8, s9, s10, .val (.ref pw), .val (.long (sb_v pa pp pd)), .second, .val (.int (sb_n pa pp pd)), .val (.int (sb_top pa pp pd)), .val (.ref ad1), .unset, .unset, .unset, .unset, .unset, .unset, .unset, .unset] [(.ref ad1)])) _
  refine XS.bipush X33.here hx rfl (hb hby at_450) ?_
  show Steps p.tables e below (T33.setTop (mkF m 452 #[.val (.long pa), .second, .val (.int pp), s3, s4, .val (.int pd), s6, s7, s8, s9, s10, .val (.ref pw), .val (.long (sb_v pa pp pd)), .second, .val (.int (sb_n pa pp pd)), .val (.int (sb_top pa pp pd)), .val (.ref ad1), .unset, .unset, .unset, .unset, .unset, .unset, .unset, .unset] [(.int (8 : Int32)), (.ref ad1)])) _
  refine XT.lload X33.here hx rfl (hb hby at_452) rfl ?_
  show Steps p.tables e below (T33.setTop (mkF m 454 #[.val (.long pa), .second, .val (.int pp), s3, s4, .val (.int pd), s6, s7, s8, s9, s10, .val (.ref pw), .val (.long (sb_v pa pp pd)), .second, .val (.int (sb_n pa pp pd)), .val (.int (sb_top pa pp pd)), .val (.ref ad1), .unset, .unset, .unset, .unset, .unset, .unset, .unset, .unset] [(.long (sb_v pa pp pd)), (.int (8 : Int32)), (.ref ad1)])) _
  refine XS.iload X33.here hx rfl (hb hby at_454) rfl ?_
  show Steps p.tables e below (T33.setTop (mkF m 456 #[.val (.long pa), .second, .val (.int pp), s3, s4, .val (.int pd), s6, s7, s8, s9, s10, .val (.ref pw), .val (.long (sb_v pa pp pd)), .second, .val (.int (sb_n pa pp pd)), .val (.int (sb_top pa pp pd)), .val (.ref ad1), .unset, .unset, .unset, .unset, .unset, .unset, .unset, .unset] [(.int (sb_top pa pp pd)), (.long (sb_v pa pp pd)), (.int (8 : Int32)), (.ref ad1)])) _
  refine XS.iload X33.here hx rfl (hb hby at_456) rfl ?_
  show Steps p.tables e below (T33.setTop (mkF m 458 #[.val (.long pa), .second, .val (.int pp), s3, s4, .val (.int pd), s6, s7, s8, s9, s10, .val (.ref pw), .val (.long (sb_v pa pp pd)), .second, .val (.int (sb_n pa pp pd)), .val (.int (sb_top pa pp pd)), .val (.ref ad1), .unset, .unset, .unset, .unset, .unset, .unset, .unset, .unset] [(.int (sb_n pa pp pd)), (.int (sb_top pa pp pd)), (.long (sb_v pa pp pd)), (.int (8 : Int32)), (.ref ad1)])) _
  refine XS.bipush X33.here hx rfl (hb hby at_458) ?_
  show Steps p.tables e below (T33.setTop (mkF m 460 #[.val (.long pa), .second, .val (.int pp), s3, s4, .val (.int pd), s6, s7, s8, s9, s10, .val (.ref pw), .val (.long (sb_v pa pp pd)), .second, .val (.int (sb_n pa pp pd)), .val (.int (sb_top pa pp pd)), .val (.ref ad1), .unset, .unset, .unset, .unset, .unset, .unset, .unset, .unset] [(.int (11 : Int32)), (.int (sb_n pa pp pd)), (.int (sb_top pa pp pd)), (.long (sb_v pa pp pd)), (.int (8 : Int32)), (.ref ad1)])) _
  refine XS.aload X33.here hx rfl (hb hby at_460) rfl rfl ?_
  show Steps p.tables e below (T33.setTop (mkF m 462 #[.val (.long pa), .second, .val (.int pp), s3, s4, .val (.int pd), s6, s7, s8, s9, s10, .val (.ref pw), .val (.long (sb_v pa pp pd)), .second, .val (.int (sb_n pa pp pd)), .val (.int (sb_top pa pp pd)), .val (.ref ad1), .unset, .unset, .unset, .unset, .unset, .unset, .unset, .unset] [(.ref pw), (.int (11 : Int32)), (.int (sb_n pa pp pd)), (.int (sb_top pa pp pd)), (.long (sb_v pa pp pd)), (.int (8 : Int32)), (.ref ad1)])) _
  refine st36 _ ?_
  show Steps p.tables e below (T36.setTop (mkF m 465 #[.val (.long pa), .second, .val (.int pp), s3, s4, .val (.int pd), s6, s7, s8, s9, s10, .val (.ref pw), .val (.long (sb_v pa pp pd)), .second, .val (.int (sb_n pa pp pd)), .val (.int (sb_top pa pp pd)), .val (.ref ad1), .unset, .unset, .unset, .unset, .unset, .unset, .unset, .unset] [(.int (dig_res (sb_v pa pp pd) (sb_top pa pp pd) (sb_n pa pp pd) (11 : Int32))), (.int (8 : Int32)), (.ref ad1)])) _
  refine st37 _ ?_
  show Steps p.tables e below (T37.setTop (mkF m 466 #[.val (.long pa), .second, .val (.int pp), s3, s4, .val (.int pd), s6, s7, s8, s9, s10, .val (.ref pw), .val (.long (sb_v pa pp pd)), .second, .val (.int (sb_n pa pp pd)), .val (.int (sb_top pa pp pd)), .val (.ref ad1), .unset, .unset, .unset, .unset, .unset, .unset, .unset, .unset] [])) _
  refine XS.aload X37.here hx rfl (hb hby at_466) rfl rfl ?_
  show Steps p.tables e below (T37.setTop (mkF m 468 #[.val (.long pa), .second, .val (.int pp), s3, s4, .val (.int pd), s6, s7, s8, s9, s10, .val (.ref pw), .val (.long (sb_v pa pp pd)), .second, .val (.int (sb_n pa pp pd)), .val (.int (sb_top pa pp pd)), .val (.ref ad1), .unset, .unset, .unset, .unset, .unset, .unset, .unset, .unset] [(.ref ad1)])) _
  refine XS.bipush X37.here hx rfl (hb hby at_468) ?_
  show Steps p.tables e below (T37.setTop (mkF m 470 #[.val (.long pa), .second, .val (.int pp), s3, s4, .val (.int pd), s6, s7, s8, s9, s10, .val (.ref pw), .val (.long (sb_v pa pp pd)), .second, .val (.int (sb_n pa pp pd)), .val (.int (sb_top pa pp pd)), .val (.ref ad1), .unset, .unset, .unset, .unset, .unset, .unset, .unset, .unset] [(.int (9 : Int32)), (.ref ad1)])) _
  refine XT.lload X37.here hx rfl (hb hby at_470) rfl ?_
  show Steps p.tables e below (T37.setTop (mkF m 472 #[.val (.long pa), .second, .val (.int pp), s3, s4, .val (.int pd), s6, s7, s8, s9, s10, .val (.ref pw), .val (.long (sb_v pa pp pd)), .second, .val (.int (sb_n pa pp pd)), .val (.int (sb_top pa pp pd)), .val (.ref ad1), .unset, .unset, .unset, .unset, .unset, .unset, .unset, .unset] [(.long (sb_v pa pp pd)), (.int (9 : Int32)), (.ref ad1)])) _
  refine XS.iload X37.here hx rfl (hb hby at_472) rfl ?_
  show Steps p.tables e below (T37.setTop (mkF m 474 #[.val (.long pa), .second, .val (.int pp), s3, s4, .val (.int pd), s6, s7, s8, s9, s10, .val (.ref pw), .val (.long (sb_v pa pp pd)), .second, .val (.int (sb_n pa pp pd)), .val (.int (sb_top pa pp pd)), .val (.ref ad1), .unset, .unset, .unset, .unset, .unset, .unset, .unset, .unset] [(.int (sb_top pa pp pd)), (.long (sb_v pa pp pd)), (.int (9 : Int32)), (.ref ad1)])) _
  refine XS.iload X37.here hx rfl (hb hby at_474) rfl ?_
  show Steps p.tables e below (T37.setTop (mkF m 476 #[.val (.long pa), .second, .val (.int pp), s3, s4, .val (.int pd), s6, s7, s8, s9, s10, .val (.ref pw), .val (.long (sb_v pa pp pd)), .second, .val (.int (sb_n pa pp pd)), .val (.int (sb_top pa pp pd)), .val (.ref ad1), .unset, .unset, .unset, .unset, .unset, .unset, .unset, .unset] [(.int (sb_n pa pp pd)), (.int (sb_top pa pp pd)), (.long (sb_v pa pp pd)), (.int (9 : Int32)), (.ref ad1)])) _
  refine XS.bipush X37.here hx rfl (hb hby at_476) ?_
  show Steps p.tables e below (T37.setTop (mkF m 478 #[.val (.long pa), .second, .val (.int pp), s3, s4, .val (.int pd), s6, s7, s8, s9, s10, .val (.ref pw), .val (.long (sb_v pa pp pd)), .second, .val (.int (sb_n pa pp pd)), .val (.int (sb_top pa pp pd)), .val (.ref ad1), .unset, .unset, .unset, .unset, .unset, .unset, .unset, .unset] [(.int (10 : Int32)), (.int (sb_n pa pp pd)), (.int (sb_top pa pp pd)), (.long (sb_v pa pp pd)), (.int (9 : Int32)), (.ref ad1)])) _
  refine XS.aload X37.here hx rfl (hb hby at_478) rfl rfl ?_
  show Steps p.tables e below (T37.setTop (mkF m 480 #[.val (.long pa), .second, .val (.int pp), s3, s4, .val (.int pd), s6, s7, s8, s9, s10, .val (.ref pw), .val (.long (sb_v pa pp pd)), .second, .val (.int (sb_n pa pp pd)), .val (.int (sb_top pa pp pd)), .val (.ref ad1), .unset, .unset, .unset, .unset, .unset, .unset, .unset, .unset] [(.ref pw), (.int (10 : Int32)), (.int (sb_n pa pp pd)), (.int (sb_top pa pp pd)), (.long (sb_v pa pp pd)), (.int (9 : Int32)), (.ref ad1)])) _
  refine st40 _ ?_
  show Steps p.tables e below (T40.setTop (mkF m 483 #[.val (.long pa), .second, .val (.int pp), s3, s4, .val (.int pd), s6, s7, s8, s9, s10, .val (.ref pw), .val (.long (sb_v pa pp pd)), .second, .val (.int (sb_n pa pp pd)), .val (.int (sb_top pa pp pd)), .val (.ref ad1), .unset, .unset, .unset, .unset, .unset, .unset, .unset, .unset] [(.int (dig_res (sb_v pa pp pd) (sb_top pa pp pd) (sb_n pa pp pd) (10 : Int32))), (.int (9 : Int32)), (.ref ad1)])) _
  refine st41 _ ?_
  show Steps p.tables e below (T41.setTop (mkF m 484 #[.val (.long pa), .second, .val (.int pp), s3, s4, .val (.int pd), s6, s7, s8, s9, s10, .val (.ref pw), .val (.long (sb_v pa pp pd)), .second, .val (.int (sb_n pa pp pd)), .val (.int (sb_top pa pp pd)), .val (.ref ad1), .unset, .unset, .unset, .unset, .unset, .unset, .unset, .unset] [])) _
  refine XS.aload X41.here hx rfl (hb hby at_484) rfl rfl ?_
  show Steps p.tables e below (T41.setTop (mkF m 486 #[.val (.long pa), .second, .val (.int pp), s3, s4, .val (.int pd), s6, s7, s8, s9, s10, .val (.ref pw), .val (.long (sb_v pa pp pd)), .second, .val (.int (sb_n pa pp pd)), .val (.int (sb_top pa pp pd)), .val (.ref ad1), .unset, .unset, .unset, .unset, .unset, .unset, .unset, .unset] [(.ref ad1)])) _
  refine XS.bipush X41.here hx rfl (hb hby at_486) ?_
  show Steps p.tables e below (T41.setTop (mkF m 488 #[.val (.long pa), .second, .val (.int pp), s3, s4, .val (.int pd), s6, s7, s8, s9, s10, .val (.ref pw), .val (.long (sb_v pa pp pd)), .second, .val (.int (sb_n pa pp pd)), .val (.int (sb_top pa pp pd)), .val (.ref ad1), .unset, .unset, .unset, .unset, .unset, .unset, .unset, .unset] [(.int (10 : Int32)), (.ref ad1)])) _
  refine XT.lload X41.here hx rfl (hb hby at_488) rfl ?_
  show Steps p.tables e below (T41.setTop (mkF m 490 #[.val (.long pa), .second, .val (.int pp), s3, s4, .val (.int pd), s6, s7, s8, s9, s10, .val (.ref pw), .val (.long (sb_v pa pp pd)), .second, .val (.int (sb_n pa pp pd)), .val (.int (sb_top pa pp pd)), .val (.ref ad1), .unset, .unset, .unset, .unset, .unset, .unset, .unset, .unset] [(.long (sb_v pa pp pd)), (.int (10 : Int32)), (.ref ad1)])) _
  refine XS.iload X41.here hx rfl (hb hby at_490) rfl ?_
  show Steps p.tables e below (T41.setTop (mkF m 492 #[.val (.long pa), .second, .val (.int pp), s3, s4, .val (.int pd), s6, s7, s8, s9, s10, .val (.ref pw), .val (.long (sb_v pa pp pd)), .second, .val (.int (sb_n pa pp pd)), .val (.int (sb_top pa pp pd)), .val (.ref ad1), .unset, .unset, .unset, .unset, .unset, .unset, .unset, .unset] [(.int (sb_top pa pp pd)), (.long (sb_v pa pp pd)), (.int (10 : Int32)), (.ref ad1)])) _
  refine XS.iload X41.here hx rfl (hb hby at_492) rfl ?_
  show Steps p.tables e below (T41.setTop (mkF m 494 #[.val (.long pa), .second, .val (.int pp), s3, s4, .val (.int pd), s6, s7, s8, s9, s10, .val (.ref pw), .val (.long (sb_v pa pp pd)), .second, .val (.int (sb_n pa pp pd)), .val (.int (sb_top pa pp pd)), .val (.ref ad1), .unset, .unset, .unset, .unset, .unset, .unset, .unset, .unset] [(.int (sb_n pa pp pd)), (.int (sb_top pa pp pd)), (.long (sb_v pa pp pd)), (.int (10 : Int32)), (.ref ad1)])) _
  refine XS.bipush X41.here hx rfl (hb hby at_494) ?_
  show Steps p.tables e below (T41.setTop (mkF m 496 #[.val (.long pa), .second, .val (.int pp), s3, s4, .val (.int pd), s6, s7, s8, s9, s10, .val (.ref pw), .val (.long (sb_v pa pp pd)), .second, .val (.int (sb_n pa pp pd)), .val (.int (sb_top pa pp pd)), .val (.ref ad1), .unset, .unset, .unset, .unset, .unset, .unset, .unset, .unset] [(.int (9 : Int32)), (.int (sb_n pa pp pd)), (.int (sb_top pa pp pd)), (.long (sb_v pa pp pd)), (.int (10 : Int32)), (.ref ad1)])) _
  refine XS.aload X41.here hx rfl (hb hby at_496) rfl rfl ?_
  show Steps p.tables e below (T41.setTop (mkF m 498 #[.val (.long pa), .second, .val (.int pp), s3, s4, .val (.int pd), s6, s7, s8, s9, s10, .val (.ref pw), .val (.long (sb_v pa pp pd)), .second, .val (.int (sb_n pa pp pd)), .val (.int (sb_top pa pp pd)), .val (.ref ad1), .unset, .unset, .unset, .unset, .unset, .unset, .unset, .unset] [(.ref pw), (.int (9 : Int32)), (.int (sb_n pa pp pd)), (.int (sb_top pa pp pd)), (.long (sb_v pa pp pd)), (.int (10 : Int32)), (.ref ad1)])) _
  refine st44 _ ?_
  show Steps p.tables e below (T44.setTop (mkF m 501 #[.val (.long pa), .second, .val (.int pp), s3, s4, .val (.int pd), s6, s7, s8, s9, s10, .val (.ref pw), .val (.long (sb_v pa pp pd)), .second, .val (.int (sb_n pa pp pd)), .val (.int (sb_top pa pp pd)), .val (.ref ad1), .unset, .unset, .unset, .unset, .unset, .unset, .unset, .unset] [(.int (dig_res (sb_v pa pp pd) (sb_top pa pp pd) (sb_n pa pp pd) (9 : Int32))), (.int (10 : Int32)), (.ref ad1)])) _
  refine st45 _ ?_
  show Steps p.tables e below (T45.setTop (mkF m 502 #[.val (.long pa), .second, .val (.int pp), s3, s4, .val (.int pd), s6, s7, s8, s9, s10, .val (.ref pw), .val (.long (sb_v pa pp pd)), .second, .val (.int (sb_n pa pp pd)), .val (.int (sb_top pa pp pd)), .val (.ref ad1), .unset, .unset, .unset, .unset, .unset, .unset, .unset, .unset] [])) _
  refine XS.aload X45.here hx rfl (hb hby at_502) rfl rfl ?_
  show Steps p.tables e below (T45.setTop (mkF m 504 #[.val (.long pa), .second, .val (.int pp), s3, s4, .val (.int pd), s6, s7, s8, s9, s10, .val (.ref pw), .val (.long (sb_v pa pp pd)), .second, .val (.int (sb_n pa pp pd)), .val (.int (sb_top pa pp pd)), .val (.ref ad1), .unset, .unset, .unset, .unset, .unset, .unset, .unset, .unset] [(.ref ad1)])) _
  refine XS.bipush X45.here hx rfl (hb hby at_504) ?_
  show Steps p.tables e below (T45.setTop (mkF m 506 #[.val (.long pa), .second, .val (.int pp), s3, s4, .val (.int pd), s6, s7, s8, s9, s10, .val (.ref pw), .val (.long (sb_v pa pp pd)), .second, .val (.int (sb_n pa pp pd)), .val (.int (sb_top pa pp pd)), .val (.ref ad1), .unset, .unset, .unset, .unset, .unset, .unset, .unset, .unset] [(.int (11 : Int32)), (.ref ad1)])) _
  refine XT.lload X45.here hx rfl (hb hby at_506) rfl ?_
  show Steps p.tables e below (T45.setTop (mkF m 508 #[.val (.long pa), .second, .val (.int pp), s3, s4, .val (.int pd), s6, s7, s8, s9, s10, .val (.ref pw), .val (.long (sb_v pa pp pd)), .second, .val (.int (sb_n pa pp pd)), .val (.int (sb_top pa pp pd)), .val (.ref ad1), .unset, .unset, .unset, .unset, .unset, .unset, .unset, .unset] [(.long (sb_v pa pp pd)), (.int (11 : Int32)), (.ref ad1)])) _
  refine XS.iload X45.here hx rfl (hb hby at_508) rfl ?_
  show Steps p.tables e below (T45.setTop (mkF m 510 #[.val (.long pa), .second, .val (.int pp), s3, s4, .val (.int pd), s6, s7, s8, s9, s10, .val (.ref pw), .val (.long (sb_v pa pp pd)), .second, .val (.int (sb_n pa pp pd)), .val (.int (sb_top pa pp pd)), .val (.ref ad1), .unset, .unset, .unset, .unset, .unset, .unset, .unset, .unset] [(.int (sb_top pa pp pd)), (.long (sb_v pa pp pd)), (.int (11 : Int32)), (.ref ad1)])) _
  refine XS.iload X45.here hx rfl (hb hby at_510) rfl ?_
  show Steps p.tables e below (T45.setTop (mkF m 512 #[.val (.long pa), .second, .val (.int pp), s3, s4, .val (.int pd), s6, s7, s8, s9, s10, .val (.ref pw), .val (.long (sb_v pa pp pd)), .second, .val (.int (sb_n pa pp pd)), .val (.int (sb_top pa pp pd)), .val (.ref ad1), .unset, .unset, .unset, .unset, .unset, .unset, .unset, .unset] [(.int (sb_n pa pp pd)), (.int (sb_top pa pp pd)), (.long (sb_v pa pp pd)), (.int (11 : Int32)), (.ref ad1)])) _
  refine XS.bipush X45.here hx rfl (hb hby at_512) ?_
  show Steps p.tables e below (T45.setTop (mkF m 514 #[.val (.long pa), .second, .val (.int pp), s3, s4, .val (.int pd), s6, s7, s8, s9, s10, .val (.ref pw), .val (.long (sb_v pa pp pd)), .second, .val (.int (sb_n pa pp pd)), .val (.int (sb_top pa pp pd)), .val (.ref ad1), .unset, .unset, .unset, .unset, .unset, .unset, .unset, .unset] [(.int (8 : Int32)), (.int (sb_n pa pp pd)), (.int (sb_top pa pp pd)), (.long (sb_v pa pp pd)), (.int (11 : Int32)), (.ref ad1)])) _
  refine XS.aload X45.here hx rfl (hb hby at_514) rfl rfl ?_
  show Steps p.tables e below (T45.setTop (mkF m 516 #[.val (.long pa), .second, .val (.int pp), s3, s4, .val (.int pd), s6, s7, s8, s9, s10, .val (.ref pw), .val (.long (sb_v pa pp pd)), .second, .val (.int (sb_n pa pp pd)), .val (.int (sb_top pa pp pd)), .val (.ref ad1), .unset, .unset, .unset, .unset, .unset, .unset, .unset, .unset] [(.ref pw), (.int (8 : Int32)), (.int (sb_n pa pp pd)), (.int (sb_top pa pp pd)), (.long (sb_v pa pp pd)), (.int (11 : Int32)), (.ref ad1)])) _
  refine st48 _ ?_
  show Steps p.tables e below (T48.setTop (mkF m 519 #[.val (.long pa), .second, .val (.int pp), s3, s4, .val (.int pd), s6, s7, s8, s9, s10, .val (.ref pw), .val (.long (sb_v pa pp pd)), .second, .val (.int (sb_n pa pp pd)), .val (.int (sb_top pa pp pd)), .val (.ref ad1), .unset, .unset, .unset, .unset, .unset, .unset, .unset, .unset] [(.int (dig_res (sb_v pa pp pd) (sb_top pa pp pd) (sb_n pa pp pd) (8 : Int32))), (.int (11 : Int32)), (.ref ad1)])) _
  refine st49 _ ?_
  show Steps p.tables e below (T49.setTop (mkF m 520 #[.val (.long pa), .second, .val (.int pp), s3, s4, .val (.int pd), s6, s7, s8, s9, s10, .val (.ref pw), .val (.long (sb_v pa pp pd)), .second, .val (.int (sb_n pa pp pd)), .val (.int (sb_top pa pp pd)), .val (.ref ad1), .unset, .unset, .unset, .unset, .unset, .unset, .unset, .unset] [])) _
  refine XS.aload X49.here hx rfl (hb hby at_520) rfl rfl ?_
  show Steps p.tables e below (T49.setTop (mkF m 522 #[.val (.long pa), .second, .val (.int pp), s3, s4, .val (.int pd), s6, s7, s8, s9, s10, .val (.ref pw), .val (.long (sb_v pa pp pd)), .second, .val (.int (sb_n pa pp pd)), .val (.int (sb_top pa pp pd)), .val (.ref ad1), .unset, .unset, .unset, .unset, .unset, .unset, .unset, .unset] [(.ref ad1)])) _
  refine XS.bipush X49.here hx rfl (hb hby at_522) ?_
  show Steps p.tables e below (T49.setTop (mkF m 524 #[.val (.long pa), .second, .val (.int pp), s3, s4, .val (.int pd), s6, s7, s8, s9, s10, .val (.ref pw), .val (.long (sb_v pa pp pd)), .second, .val (.int (sb_n pa pp pd)), .val (.int (sb_top pa pp pd)), .val (.ref ad1), .unset, .unset, .unset, .unset, .unset, .unset, .unset, .unset] [(.int (12 : Int32)), (.ref ad1)])) _
  refine XT.lload X49.here hx rfl (hb hby at_524) rfl ?_
  show Steps p.tables e below (T49.setTop (mkF m 526 #[.val (.long pa), .second, .val (.int pp), s3, s4, .val (.int pd), s6, s7, s8, s9, s10, .val (.ref pw), .val (.long (sb_v pa pp pd)), .second, .val (.int (sb_n pa pp pd)), .val (.int (sb_top pa pp pd)), .val (.ref ad1), .unset, .unset, .unset, .unset, .unset, .unset, .unset, .unset] [(.long (sb_v pa pp pd)), (.int (12 : Int32)), (.ref ad1)])) _
  refine XS.iload X49.here hx rfl (hb hby at_526) rfl ?_
  show Steps p.tables e below (T49.setTop (mkF m 528 #[.val (.long pa), .second, .val (.int pp), s3, s4, .val (.int pd), s6, s7, s8, s9, s10, .val (.ref pw), .val (.long (sb_v pa pp pd)), .second, .val (.int (sb_n pa pp pd)), .val (.int (sb_top pa pp pd)), .val (.ref ad1), .unset, .unset, .unset, .unset, .unset, .unset, .unset, .unset] [(.int (sb_top pa pp pd)), (.long (sb_v pa pp pd)), (.int (12 : Int32)), (.ref ad1)])) _
  refine XS.iload X49.here hx rfl (hb hby at_528) rfl ?_
  show Steps p.tables e below (T49.setTop (mkF m 530 #[.val (.long pa), .second, .val (.int pp), s3, s4, .val (.int pd), s6, s7, s8, s9, s10, .val (.ref pw), .val (.long (sb_v pa pp pd)), .second, .val (.int (sb_n pa pp pd)), .val (.int (sb_top pa pp pd)), .val (.ref ad1), .unset, .unset, .unset, .unset, .unset, .unset, .unset, .unset] [(.int (sb_n pa pp pd)), (.int (sb_top pa pp pd)), (.long (sb_v pa pp pd)), (.int (12 : Int32)), (.ref ad1)])) _
  refine XS.bipush X49.here hx rfl (hb hby at_530) ?_
  show Steps p.tables e below (T49.setTop (mkF m 532 #[.val (.long pa), .second, .val (.int pp), s3, s4, .val (.int pd), s6, s7, s8, s9, s10, .val (.ref pw), .val (.long (sb_v pa pp pd)), .second, .val (.int (sb_n pa pp pd)), .val (.int (sb_top pa pp pd)), .val (.ref ad1), .unset, .unset, .unset, .unset, .unset, .unset, .unset, .unset] [(.int (7 : Int32)), (.int (sb_n pa pp pd)), (.int (sb_top pa pp pd)), (.long (sb_v pa pp pd)), (.int (12 : Int32)), (.ref ad1)])) _
  refine XS.aload X49.here hx rfl (hb hby at_532) rfl rfl ?_
  show Steps p.tables e below (T49.setTop (mkF m 534 #[.val (.long pa), .second, .val (.int pp), s3, s4, .val (.int pd), s6, s7, s8, s9, s10, .val (.ref pw), .val (.long (sb_v pa pp pd)), .second, .val (.int (sb_n pa pp pd)), .val (.int (sb_top pa pp pd)), .val (.ref ad1), .unset, .unset, .unset, .unset, .unset, .unset, .unset, .unset] [(.ref pw), (.int (7 : Int32)), (.int (sb_n pa pp pd)), (.int (sb_top pa pp pd)), (.long (sb_v pa pp pd)), (.int (12 : Int32)), (.ref ad1)])) _
  refine st52 _ ?_
  show Steps p.tables e below (T52.setTop (mkF m 537 #[.val (.long pa), .second, .val (.int pp), s3, s4, .val (.int pd), s6, s7, s8, s9, s10, .val (.ref pw), .val (.long (sb_v pa pp pd)), .second, .val (.int (sb_n pa pp pd)), .val (.int (sb_top pa pp pd)), .val (.ref ad1), .unset, .unset, .unset, .unset, .unset, .unset, .unset, .unset] [(.int (dig_res (sb_v pa pp pd) (sb_top pa pp pd) (sb_n pa pp pd) (7 : Int32))), (.int (12 : Int32)), (.ref ad1)])) _
  refine st53 _ ?_
  show Steps p.tables e below (T53.setTop (mkF m 538 #[.val (.long pa), .second, .val (.int pp), s3, s4, .val (.int pd), s6, s7, s8, s9, s10, .val (.ref pw), .val (.long (sb_v pa pp pd)), .second, .val (.int (sb_n pa pp pd)), .val (.int (sb_top pa pp pd)), .val (.ref ad1), .unset, .unset, .unset, .unset, .unset, .unset, .unset, .unset] [])) _
  refine XS.aload X53.here hx rfl (hb hby at_538) rfl rfl ?_
  show Steps p.tables e below (T53.setTop (mkF m 540 #[.val (.long pa), .second, .val (.int pp), s3, s4, .val (.int pd), s6, s7, s8, s9, s10, .val (.ref pw), .val (.long (sb_v pa pp pd)), .second, .val (.int (sb_n pa pp pd)), .val (.int (sb_top pa pp pd)), .val (.ref ad1), .unset, .unset, .unset, .unset, .unset, .unset, .unset, .unset] [(.ref ad1)])) _
  refine XS.bipush X53.here hx rfl (hb hby at_540) ?_
  show Steps p.tables e below (T53.setTop (mkF m 542 #[.val (.long pa), .second, .val (.int pp), s3, s4, .val (.int pd), s6, s7, s8, s9, s10, .val (.ref pw), .val (.long (sb_v pa pp pd)), .second, .val (.int (sb_n pa pp pd)), .val (.int (sb_top pa pp pd)), .val (.ref ad1), .unset, .unset, .unset, .unset, .unset, .unset, .unset, .unset] [(.int (13 : Int32)), (.ref ad1)])) _
  refine XT.lload X53.here hx rfl (hb hby at_542) rfl ?_
  show Steps p.tables e below (T53.setTop (mkF m 544 #[.val (.long pa), .second, .val (.int pp), s3, s4, .val (.int pd), s6, s7, s8, s9, s10, .val (.ref pw), .val (.long (sb_v pa pp pd)), .second, .val (.int (sb_n pa pp pd)), .val (.int (sb_top pa pp pd)), .val (.ref ad1), .unset, .unset, .unset, .unset, .unset, .unset, .unset, .unset] [(.long (sb_v pa pp pd)), (.int (13 : Int32)), (.ref ad1)])) _
  refine XS.iload X53.here hx rfl (hb hby at_544) rfl ?_
  show Steps p.tables e below (T53.setTop (mkF m 546 #[.val (.long pa), .second, .val (.int pp), s3, s4, .val (.int pd), s6, s7, s8, s9, s10, .val (.ref pw), .val (.long (sb_v pa pp pd)), .second, .val (.int (sb_n pa pp pd)), .val (.int (sb_top pa pp pd)), .val (.ref ad1), .unset, .unset, .unset, .unset, .unset, .unset, .unset, .unset] [(.int (sb_top pa pp pd)), (.long (sb_v pa pp pd)), (.int (13 : Int32)), (.ref ad1)])) _
  refine XS.iload X53.here hx rfl (hb hby at_546) rfl ?_
  show Steps p.tables e below (T53.setTop (mkF m 548 #[.val (.long pa), .second, .val (.int pp), s3, s4, .val (.int pd), s6, s7, s8, s9, s10, .val (.ref pw), .val (.long (sb_v pa pp pd)), .second, .val (.int (sb_n pa pp pd)), .val (.int (sb_top pa pp pd)), .val (.ref ad1), .unset, .unset, .unset, .unset, .unset, .unset, .unset, .unset] [(.int (sb_n pa pp pd)), (.int (sb_top pa pp pd)), (.long (sb_v pa pp pd)), (.int (13 : Int32)), (.ref ad1)])) _
  refine XS.bipush X53.here hx rfl (hb hby at_548) ?_
  show Steps p.tables e below (T53.setTop (mkF m 550 #[.val (.long pa), .second, .val (.int pp), s3, s4, .val (.int pd), s6, s7, s8, s9, s10, .val (.ref pw), .val (.long (sb_v pa pp pd)), .second, .val (.int (sb_n pa pp pd)), .val (.int (sb_top pa pp pd)), .val (.ref ad1), .unset, .unset, .unset, .unset, .unset, .unset, .unset, .unset] [(.int (6 : Int32)), (.int (sb_n pa pp pd)), (.int (sb_top pa pp pd)), (.long (sb_v pa pp pd)), (.int (13 : Int32)), (.ref ad1)])) _
  refine XS.aload X53.here hx rfl (hb hby at_550) rfl rfl ?_
  show Steps p.tables e below (T53.setTop (mkF m 552 #[.val (.long pa), .second, .val (.int pp), s3, s4, .val (.int pd), s6, s7, s8, s9, s10, .val (.ref pw), .val (.long (sb_v pa pp pd)), .second, .val (.int (sb_n pa pp pd)), .val (.int (sb_top pa pp pd)), .val (.ref ad1), .unset, .unset, .unset, .unset, .unset, .unset, .unset, .unset] [(.ref pw), (.int (6 : Int32)), (.int (sb_n pa pp pd)), (.int (sb_top pa pp pd)), (.long (sb_v pa pp pd)), (.int (13 : Int32)), (.ref ad1)])) _
  refine st56 _ ?_
  show Steps p.tables e below (T56.setTop (mkF m 555 #[.val (.long pa), .second, .val (.int pp), s3, s4, .val (.int pd), s6, s7, s8, s9, s10, .val (.ref pw), .val (.long (sb_v pa pp pd)), .second, .val (.int (sb_n pa pp pd)), .val (.int (sb_top pa pp pd)), .val (.ref ad1), .unset, .unset, .unset, .unset, .unset, .unset, .unset, .unset] [(.int (dig_res (sb_v pa pp pd) (sb_top pa pp pd) (sb_n pa pp pd) (6 : Int32))), (.int (13 : Int32)), (.ref ad1)])) _
  refine st57 _ ?_
  show Steps p.tables e below (T57.setTop (mkF m 556 #[.val (.long pa), .second, .val (.int pp), s3, s4, .val (.int pd), s6, s7, s8, s9, s10, .val (.ref pw), .val (.long (sb_v pa pp pd)), .second, .val (.int (sb_n pa pp pd)), .val (.int (sb_top pa pp pd)), .val (.ref ad1), .unset, .unset, .unset, .unset, .unset, .unset, .unset, .unset] [])) _
  refine XS.aload X57.here hx rfl (hb hby at_556) rfl rfl ?_
  show Steps p.tables e below (T57.setTop (mkF m 558 #[.val (.long pa), .second, .val (.int pp), s3, s4, .val (.int pd), s6, s7, s8, s9, s10, .val (.ref pw), .val (.long (sb_v pa pp pd)), .second, .val (.int (sb_n pa pp pd)), .val (.int (sb_top pa pp pd)), .val (.ref ad1), .unset, .unset, .unset, .unset, .unset, .unset, .unset, .unset] [(.ref ad1)])) _
  refine XS.bipush X57.here hx rfl (hb hby at_558) ?_
  show Steps p.tables e below (T57.setTop (mkF m 560 #[.val (.long pa), .second, .val (.int pp), s3, s4, .val (.int pd), s6, s7, s8, s9, s10, .val (.ref pw), .val (.long (sb_v pa pp pd)), .second, .val (.int (sb_n pa pp pd)), .val (.int (sb_top pa pp pd)), .val (.ref ad1), .unset, .unset, .unset, .unset, .unset, .unset, .unset, .unset] [(.int (14 : Int32)), (.ref ad1)])) _
  refine XT.lload X57.here hx rfl (hb hby at_560) rfl ?_
  show Steps p.tables e below (T57.setTop (mkF m 562 #[.val (.long pa), .second, .val (.int pp), s3, s4, .val (.int pd), s6, s7, s8, s9, s10, .val (.ref pw), .val (.long (sb_v pa pp pd)), .second, .val (.int (sb_n pa pp pd)), .val (.int (sb_top pa pp pd)), .val (.ref ad1), .unset, .unset, .unset, .unset, .unset, .unset, .unset, .unset] [(.long (sb_v pa pp pd)), (.int (14 : Int32)), (.ref ad1)])) _
  refine XS.iload X57.here hx rfl (hb hby at_562) rfl ?_
  show Steps p.tables e below (T57.setTop (mkF m 564 #[.val (.long pa), .second, .val (.int pp), s3, s4, .val (.int pd), s6, s7, s8, s9, s10, .val (.ref pw), .val (.long (sb_v pa pp pd)), .second, .val (.int (sb_n pa pp pd)), .val (.int (sb_top pa pp pd)), .val (.ref ad1), .unset, .unset, .unset, .unset, .unset, .unset, .unset, .unset] [(.int (sb_top pa pp pd)), (.long (sb_v pa pp pd)), (.int (14 : Int32)), (.ref ad1)])) _
  refine XS.iload X57.here hx rfl (hb hby at_564) rfl ?_
  show Steps p.tables e below (T57.setTop (mkF m 566 #[.val (.long pa), .second, .val (.int pp), s3, s4, .val (.int pd), s6, s7, s8, s9, s10, .val (.ref pw), .val (.long (sb_v pa pp pd)), .second, .val (.int (sb_n pa pp pd)), .val (.int (sb_top pa pp pd)), .val (.ref ad1), .unset, .unset, .unset, .unset, .unset, .unset, .unset, .unset] [(.int (sb_n pa pp pd)), (.int (sb_top pa pp pd)), (.long (sb_v pa pp pd)), (.int (14 : Int32)), (.ref ad1)])) _
  refine XS.iconst X57.here hx rfl (hb hby at_566) ?_
  show Steps p.tables e below (T57.setTop (mkF m 567 #[.val (.long pa), .second, .val (.int pp), s3, s4, .val (.int pd), s6, s7, s8, s9, s10, .val (.ref pw), .val (.long (sb_v pa pp pd)), .second, .val (.int (sb_n pa pp pd)), .val (.int (sb_top pa pp pd)), .val (.ref ad1), .unset, .unset, .unset, .unset, .unset, .unset, .unset, .unset] [(.int (5 : Int32)), (.int (sb_n pa pp pd)), (.int (sb_top pa pp pd)), (.long (sb_v pa pp pd)), (.int (14 : Int32)), (.ref ad1)])) _
  refine XS.aload X57.here hx rfl (hb hby at_567) rfl rfl ?_
  show Steps p.tables e below (T57.setTop (mkF m 569 #[.val (.long pa), .second, .val (.int pp), s3, s4, .val (.int pd), s6, s7, s8, s9, s10, .val (.ref pw), .val (.long (sb_v pa pp pd)), .second, .val (.int (sb_n pa pp pd)), .val (.int (sb_top pa pp pd)), .val (.ref ad1), .unset, .unset, .unset, .unset, .unset, .unset, .unset, .unset] [(.ref pw), (.int (5 : Int32)), (.int (sb_n pa pp pd)), (.int (sb_top pa pp pd)), (.long (sb_v pa pp pd)), (.int (14 : Int32)), (.ref ad1)])) _
  refine st60 _ ?_
  show Steps p.tables e below (T60.setTop (mkF m 572 #[.val (.long pa), .second, .val (.int pp), s3, s4, .val (.int pd), s6, s7, s8, s9, s10, .val (.ref pw), .val (.long (sb_v pa pp pd)), .second, .val (.int (sb_n pa pp pd)), .val (.int (sb_top pa pp pd)), .val (.ref ad1), .unset, .unset, .unset, .unset, .unset, .unset, .unset, .unset] [(.int (dig_res (sb_v pa pp pd) (sb_top pa pp pd) (sb_n pa pp pd) (5 : Int32))), (.int (14 : Int32)), (.ref ad1)])) _
  refine st61 _ ?_
  show Steps p.tables e below (T61.setTop (mkF m 573 #[.val (.long pa), .second, .val (.int pp), s3, s4, .val (.int pd), s6, s7, s8, s9, s10, .val (.ref pw), .val (.long (sb_v pa pp pd)), .second, .val (.int (sb_n pa pp pd)), .val (.int (sb_top pa pp pd)), .val (.ref ad1), .unset, .unset, .unset, .unset, .unset, .unset, .unset, .unset] [])) _
  refine XS.aload X61.here hx rfl (hb hby at_573) rfl rfl ?_
  show Steps p.tables e below (T61.setTop (mkF m 575 #[.val (.long pa), .second, .val (.int pp), s3, s4, .val (.int pd), s6, s7, s8, s9, s10, .val (.ref pw), .val (.long (sb_v pa pp pd)), .second, .val (.int (sb_n pa pp pd)), .val (.int (sb_top pa pp pd)), .val (.ref ad1), .unset, .unset, .unset, .unset, .unset, .unset, .unset, .unset] [(.ref ad1)])) _
  refine XS.bipush X61.here hx rfl (hb hby at_575) ?_
  show Steps p.tables e below (T61.setTop (mkF m 577 #[.val (.long pa), .second, .val (.int pp), s3, s4, .val (.int pd), s6, s7, s8, s9, s10, .val (.ref pw), .val (.long (sb_v pa pp pd)), .second, .val (.int (sb_n pa pp pd)), .val (.int (sb_top pa pp pd)), .val (.ref ad1), .unset, .unset, .unset, .unset, .unset, .unset, .unset, .unset] [(.int (15 : Int32)), (.ref ad1)])) _
  refine XT.lload X61.here hx rfl (hb hby at_577) rfl ?_
  show Steps p.tables e below (T61.setTop (mkF m 579 #[.val (.long pa), .second, .val (.int pp), s3, s4, .val (.int pd), s6, s7, s8, s9, s10, .val (.ref pw), .val (.long (sb_v pa pp pd)), .second, .val (.int (sb_n pa pp pd)), .val (.int (sb_top pa pp pd)), .val (.ref ad1), .unset, .unset, .unset, .unset, .unset, .unset, .unset, .unset] [(.long (sb_v pa pp pd)), (.int (15 : Int32)), (.ref ad1)])) _
  refine XS.iload X61.here hx rfl (hb hby at_579) rfl ?_
  show Steps p.tables e below (T61.setTop (mkF m 581 #[.val (.long pa), .second, .val (.int pp), s3, s4, .val (.int pd), s6, s7, s8, s9, s10, .val (.ref pw), .val (.long (sb_v pa pp pd)), .second, .val (.int (sb_n pa pp pd)), .val (.int (sb_top pa pp pd)), .val (.ref ad1), .unset, .unset, .unset, .unset, .unset, .unset, .unset, .unset] [(.int (sb_top pa pp pd)), (.long (sb_v pa pp pd)), (.int (15 : Int32)), (.ref ad1)])) _
  refine XS.iload X61.here hx rfl (hb hby at_581) rfl ?_
  show Steps p.tables e below (T61.setTop (mkF m 583 #[.val (.long pa), .second, .val (.int pp), s3, s4, .val (.int pd), s6, s7, s8, s9, s10, .val (.ref pw), .val (.long (sb_v pa pp pd)), .second, .val (.int (sb_n pa pp pd)), .val (.int (sb_top pa pp pd)), .val (.ref ad1), .unset, .unset, .unset, .unset, .unset, .unset, .unset, .unset] [(.int (sb_n pa pp pd)), (.int (sb_top pa pp pd)), (.long (sb_v pa pp pd)), (.int (15 : Int32)), (.ref ad1)])) _
  refine XS.iconst X61.here hx rfl (hb hby at_583) ?_
  show Steps p.tables e below (T61.setTop (mkF m 584 #[.val (.long pa), .second, .val (.int pp), s3, s4, .val (.int pd), s6, s7, s8, s9, s10, .val (.ref pw), .val (.long (sb_v pa pp pd)), .second, .val (.int (sb_n pa pp pd)), .val (.int (sb_top pa pp pd)), .val (.ref ad1), .unset, .unset, .unset, .unset, .unset, .unset, .unset, .unset] [(.int (4 : Int32)), (.int (sb_n pa pp pd)), (.int (sb_top pa pp pd)), (.long (sb_v pa pp pd)), (.int (15 : Int32)), (.ref ad1)])) _
  refine XS.aload X61.here hx rfl (hb hby at_584) rfl rfl ?_
  show Steps p.tables e below (T61.setTop (mkF m 586 #[.val (.long pa), .second, .val (.int pp), s3, s4, .val (.int pd), s6, s7, s8, s9, s10, .val (.ref pw), .val (.long (sb_v pa pp pd)), .second, .val (.int (sb_n pa pp pd)), .val (.int (sb_top pa pp pd)), .val (.ref ad1), .unset, .unset, .unset, .unset, .unset, .unset, .unset, .unset] [(.ref pw), (.int (4 : Int32)), (.int (sb_n pa pp pd)), (.int (sb_top pa pp pd)), (.long (sb_v pa pp pd)), (.int (15 : Int32)), (.ref ad1)])) _
  refine st64 _ ?_
  show Steps p.tables e below (T64.setTop (mkF m 589 #[.val (.long pa), .second, .val (.int pp), s3, s4, .val (.int pd), s6, s7, s8, s9, s10, .val (.ref pw), .val (.long (sb_v pa pp pd)), .second, .val (.int (sb_n pa pp pd)), .val (.int (sb_top pa pp pd)), .val (.ref ad1), .unset, .unset, .unset, .unset, .unset, .unset, .unset, .unset] [(.int (dig_res (sb_v pa pp pd) (sb_top pa pp pd) (sb_n pa pp pd) (4 : Int32))), (.int (15 : Int32)), (.ref ad1)])) _
  refine st65 _ ?_
  show Steps p.tables e below (T65.setTop (mkF m 590 #[.val (.long pa), .second, .val (.int pp), s3, s4, .val (.int pd), s6, s7, s8, s9, s10, .val (.ref pw), .val (.long (sb_v pa pp pd)), .second, .val (.int (sb_n pa pp pd)), .val (.int (sb_top pa pp pd)), .val (.ref ad1), .unset, .unset, .unset, .unset, .unset, .unset, .unset, .unset] [])) _
  refine XS.aload X65.here hx rfl (hb hby at_590) rfl rfl ?_
  show Steps p.tables e below (T65.setTop (mkF m 592 #[.val (.long pa), .second, .val (.int pp), s3, s4, .val (.int pd), s6, s7, s8, s9, s10, .val (.ref pw), .val (.long (sb_v pa pp pd)), .second, .val (.int (sb_n pa pp pd)), .val (.int (sb_top pa pp pd)), .val (.ref ad1), .unset, .unset, .unset, .unset, .unset, .unset, .unset, .unset] [(.ref ad1)])) _
  refine XS.bipush X65.here hx rfl (hb hby at_592) ?_
  show Steps p.tables e below (T65.setTop (mkF m 594 #[.val (.long pa), .second, .val (.int pp), s3, s4, .val (.int pd), s6, s7, s8, s9, s10, .val (.ref pw), .val (.long (sb_v pa pp pd)), .second, .val (.int (sb_n pa pp pd)), .val (.int (sb_top pa pp pd)), .val (.ref ad1), .unset, .unset, .unset, .unset, .unset, .unset, .unset, .unset] [(.int (16 : Int32)), (.ref ad1)])) _
  refine XT.lload X65.here hx rfl (hb hby at_594) rfl ?_
  show Steps p.tables e below (T65.setTop (mkF m 596 #[.val (.long pa), .second, .val (.int pp), s3, s4, .val (.int pd), s6, s7, s8, s9, s10, .val (.ref pw), .val (.long (sb_v pa pp pd)), .second, .val (.int (sb_n pa pp pd)), .val (.int (sb_top pa pp pd)), .val (.ref ad1), .unset, .unset, .unset, .unset, .unset, .unset, .unset, .unset] [(.long (sb_v pa pp pd)), (.int (16 : Int32)), (.ref ad1)])) _
  refine XS.iload X65.here hx rfl (hb hby at_596) rfl ?_
  show Steps p.tables e below (T65.setTop (mkF m 598 #[.val (.long pa), .second, .val (.int pp), s3, s4, .val (.int pd), s6, s7, s8, s9, s10, .val (.ref pw), .val (.long (sb_v pa pp pd)), .second, .val (.int (sb_n pa pp pd)), .val (.int (sb_top pa pp pd)), .val (.ref ad1), .unset, .unset, .unset, .unset, .unset, .unset, .unset, .unset] [(.int (sb_top pa pp pd)), (.long (sb_v pa pp pd)), (.int (16 : Int32)), (.ref ad1)])) _
  refine XS.iload X65.here hx rfl (hb hby at_598) rfl ?_
  show Steps p.tables e below (T65.setTop (mkF m 600 #[.val (.long pa), .second, .val (.int pp), s3, s4, .val (.int pd), s6, s7, s8, s9, s10, .val (.ref pw), .val (.long (sb_v pa pp pd)), .second, .val (.int (sb_n pa pp pd)), .val (.int (sb_top pa pp pd)), .val (.ref ad1), .unset, .unset, .unset, .unset, .unset, .unset, .unset, .unset] [(.int (sb_n pa pp pd)), (.int (sb_top pa pp pd)), (.long (sb_v pa pp pd)), (.int (16 : Int32)), (.ref ad1)])) _
  refine XS.iconst X65.here hx rfl (hb hby at_600) ?_
  show Steps p.tables e below (T65.setTop (mkF m 601 #[.val (.long pa), .second, .val (.int pp), s3, s4, .val (.int pd), s6, s7, s8, s9, s10, .val (.ref pw), .val (.long (sb_v pa pp pd)), .second, .val (.int (sb_n pa pp pd)), .val (.int (sb_top pa pp pd)), .val (.ref ad1), .unset, .unset, .unset, .unset, .unset, .unset, .unset, .unset] [(.int (3 : Int32)), (.int (sb_n pa pp pd)), (.int (sb_top pa pp pd)), (.long (sb_v pa pp pd)), (.int (16 : Int32)), (.ref ad1)])) _
  refine XS.aload X65.here hx rfl (hb hby at_601) rfl rfl ?_
  show Steps p.tables e below (T65.setTop (mkF m 603 #[.val (.long pa), .second, .val (.int pp), s3, s4, .val (.int pd), s6, s7, s8, s9, s10, .val (.ref pw), .val (.long (sb_v pa pp pd)), .second, .val (.int (sb_n pa pp pd)), .val (.int (sb_top pa pp pd)), .val (.ref ad1), .unset, .unset, .unset, .unset, .unset, .unset, .unset, .unset] [(.ref pw), (.int (3 : Int32)), (.int (sb_n pa pp pd)), (.int (sb_top pa pp pd)), (.long (sb_v pa pp pd)), (.int (16 : Int32)), (.ref ad1)])) _
  refine st68 _ ?_
  show Steps p.tables e below (T68.setTop (mkF m 606 #[.val (.long pa), .second, .val (.int pp), s3, s4, .val (.int pd), s6, s7, s8, s9, s10, .val (.ref pw), .val (.long (sb_v pa pp pd)), .second, .val (.int (sb_n pa pp pd)), .val (.int (sb_top pa pp pd)), .val (.ref ad1), .unset, .unset, .unset, .unset, .unset, .unset, .unset, .unset] [(.int (dig_res (sb_v pa pp pd) (sb_top pa pp pd) (sb_n pa pp pd) (3 : Int32))), (.int (16 : Int32)), (.ref ad1)])) _
  refine st69 _ ?_
  show Steps p.tables e below (T69.setTop (mkF m 607 #[.val (.long pa), .second, .val (.int pp), s3, s4, .val (.int pd), s6, s7, s8, s9, s10, .val (.ref pw), .val (.long (sb_v pa pp pd)), .second, .val (.int (sb_n pa pp pd)), .val (.int (sb_top pa pp pd)), .val (.ref ad1), .unset, .unset, .unset, .unset, .unset, .unset, .unset, .unset] [])) _
  refine XS.aload X69.here hx rfl (hb hby at_607) rfl rfl ?_
  show Steps p.tables e below (T69.setTop (mkF m 609 #[.val (.long pa), .second, .val (.int pp), s3, s4, .val (.int pd), s6, s7, s8, s9, s10, .val (.ref pw), .val (.long (sb_v pa pp pd)), .second, .val (.int (sb_n pa pp pd)), .val (.int (sb_top pa pp pd)), .val (.ref ad1), .unset, .unset, .unset, .unset, .unset, .unset, .unset, .unset] [(.ref ad1)])) _
  refine XS.bipush X69.here hx rfl (hb hby at_609) ?_
  show Steps p.tables e below (T69.setTop (mkF m 611 #[.val (.long pa), .second, .val (.int pp), s3, s4, .val (.int pd), s6, s7, s8, s9, s10, .val (.ref pw), .val (.long (sb_v pa pp pd)), .second, .val (.int (sb_n pa pp pd)), .val (.int (sb_top pa pp pd)), .val (.ref ad1), .unset, .unset, .unset, .unset, .unset, .unset, .unset, .unset] [(.int (17 : Int32)), (.ref ad1)])) _
  refine XT.lload X69.here hx rfl (hb hby at_611) rfl ?_
  show Steps p.tables e below (T69.setTop (mkF m 613 #[.val (.long pa), .second, .val (.int pp), s3, s4, .val (.int pd), s6, s7, s8, s9, s10, .val (.ref pw), .val (.long (sb_v pa pp pd)), .second, .val (.int (sb_n pa pp pd)), .val (.int (sb_top pa pp pd)), .val (.ref ad1), .unset, .unset, .unset, .unset, .unset, .unset, .unset, .unset] [(.long (sb_v pa pp pd)), (.int (17 : Int32)), (.ref ad1)])) _
  refine XS.iload X69.here hx rfl (hb hby at_613) rfl ?_
  show Steps p.tables e below (T69.setTop (mkF m 615 #[.val (.long pa), .second, .val (.int pp), s3, s4, .val (.int pd), s6, s7, s8, s9, s10, .val (.ref pw), .val (.long (sb_v pa pp pd)), .second, .val (.int (sb_n pa pp pd)), .val (.int (sb_top pa pp pd)), .val (.ref ad1), .unset, .unset, .unset, .unset, .unset, .unset, .unset, .unset] [(.int (sb_top pa pp pd)), (.long (sb_v pa pp pd)), (.int (17 : Int32)), (.ref ad1)])) _
  refine XS.iload X69.here hx rfl (hb hby at_615) rfl ?_
  show Steps p.tables e below (T69.setTop (mkF m 617 #[.val (.long pa), .second, .val (.int pp), s3, s4, .val (.int pd), s6, s7, s8, s9, s10, .val (.ref pw), .val (.long (sb_v pa pp pd)), .second, .val (.int (sb_n pa pp pd)), .val (.int (sb_top pa pp pd)), .val (.ref ad1), .unset, .unset, .unset, .unset, .unset, .unset, .unset, .unset] [(.int (sb_n pa pp pd)), (.int (sb_top pa pp pd)), (.long (sb_v pa pp pd)), (.int (17 : Int32)), (.ref ad1)])) _
  refine XS.iconst X69.here hx rfl (hb hby at_617) ?_
  show Steps p.tables e below (T69.setTop (mkF m 618 #[.val (.long pa), .second, .val (.int pp), s3, s4, .val (.int pd), s6, s7, s8, s9, s10, .val (.ref pw), .val (.long (sb_v pa pp pd)), .second, .val (.int (sb_n pa pp pd)), .val (.int (sb_top pa pp pd)), .val (.ref ad1), .unset, .unset, .unset, .unset, .unset, .unset, .unset, .unset] [(.int (2 : Int32)), (.int (sb_n pa pp pd)), (.int (sb_top pa pp pd)), (.long (sb_v pa pp pd)), (.int (17 : Int32)), (.ref ad1)])) _
  refine XS.aload X69.here hx rfl (hb hby at_618) rfl rfl ?_
  show Steps p.tables e below (T69.setTop (mkF m 620 #[.val (.long pa), .second, .val (.int pp), s3, s4, .val (.int pd), s6, s7, s8, s9, s10, .val (.ref pw), .val (.long (sb_v pa pp pd)), .second, .val (.int (sb_n pa pp pd)), .val (.int (sb_top pa pp pd)), .val (.ref ad1), .unset, .unset, .unset, .unset, .unset, .unset, .unset, .unset] [(.ref pw), (.int (2 : Int32)), (.int (sb_n pa pp pd)), (.int (sb_top pa pp pd)), (.long (sb_v pa pp pd)), (.int (17 : Int32)), (.ref ad1)])) _
  refine st72 _ ?_
  show Steps p.tables e below (T72.setTop (mkF m 623 #[.val (.long pa), .second, .val (.int pp), s3, s4, .val (.int pd), s6, s7, s8, s9, s10, .val (.ref pw), .val (.long (sb_v pa pp pd)), .second, .val (.int (sb_n pa pp pd)), .val (.int (sb_top pa pp pd)), .val (.ref ad1), .unset, .unset, .unset, .unset, .unset, .unset, .unset, .unset] [(.int (dig_res (sb_v pa pp pd) (sb_top pa pp pd) (sb_n pa pp pd) (2 : Int32))), (.int (17 : Int32)), (.ref ad1)])) _
  refine st73 _ ?_
  show Steps p.tables e below (T73.setTop (mkF m 624 #[.val (.long pa), .second, .val (.int pp), s3, s4, .val (.int pd), s6, s7, s8, s9, s10, .val (.ref pw), .val (.long (sb_v pa pp pd)), .second, .val (.int (sb_n pa pp pd)), .val (.int (sb_top pa pp pd)), .val (.ref ad1), .unset, .unset, .unset, .unset, .unset, .unset, .unset, .unset] [])) _
  refine XS.aload X73.here hx rfl (hb hby at_624) rfl rfl ?_
  show Steps p.tables e below (T73.setTop (mkF m 626 #[.val (.long pa), .second, .val (.int pp), s3, s4, .val (.int pd), s6, s7, s8, s9, s10, .val (.ref pw), .val (.long (sb_v pa pp pd)), .second, .val (.int (sb_n pa pp pd)), .val (.int (sb_top pa pp pd)), .val (.ref ad1), .unset, .unset, .unset, .unset, .unset, .unset, .unset, .unset] [(.ref ad1)])) _
  refine XS.bipush X73.here hx rfl (hb hby at_626) ?_
  show Steps p.tables e below (T73.setTop (mkF m 628 #[.val (.long pa), .second, .val (.int pp), s3, s4, .val (.int pd), s6, s7, s8, s9, s10, .val (.ref pw), .val (.long (sb_v pa pp pd)), .second, .val (.int (sb_n pa pp pd)), .val (.int (sb_top pa pp pd)), .val (.ref ad1), .unset, .unset, .unset, .unset, .unset, .unset, .unset, .unset] [(.int (18 : Int32)), (.ref ad1)])) _
  refine XT.lload X73.here hx rfl (hb hby at_628) rfl ?_
  show Steps p.tables e below (T73.setTop (mkF m 630 #[.val (.long pa), .second, .val (.int pp), s3, s4, .val (.int pd), s6, s7, s8, s9, s10, .val (.ref pw), .val (.long (sb_v pa pp pd)), .second, .val (.int (sb_n pa pp pd)), .val (.int (sb_top pa pp pd)), .val (.ref ad1), .unset, .unset, .unset, .unset, .unset, .unset, .unset, .unset] [(.long (sb_v pa pp pd)), (.int (18 : Int32)), (.ref ad1)])) _
  refine XS.iload X73.here hx rfl (hb hby at_630) rfl ?_
  show Steps p.tables e below (T73.setTop (mkF m 632 #[.val (.long pa), .second, .val (.int pp), s3, s4, .val (.int pd), s6, s7, s8, s9, s10, .val (.ref pw), .val (.long (sb_v pa pp pd)), .second, .val (.int (sb_n pa pp pd)), .val (.int (sb_top pa pp pd)), .val (.ref ad1), .unset, .unset, .unset, .unset, .unset, .unset, .unset, .unset] [(.int (sb_top pa pp pd)), (.long (sb_v pa pp pd)), (.int (18 : Int32)), (.ref ad1)])) _
  refine XS.iload X73.here hx rfl (hb hby at_632) rfl ?_
  show Steps p.tables e below (T73.setTop (mkF m 634 #[.val (.long pa), .second, .val (.int pp), s3, s4, .val (.int pd), s6, s7, s8, s9, s10, .val (.ref pw), .val (.long (sb_v pa pp pd)), .second, .val (.int (sb_n pa pp pd)), .val (.int (sb_top pa pp pd)), .val (.ref ad1), .unset, .unset, .unset, .unset, .unset, .unset, .unset, .unset] [(.int (sb_n pa pp pd)), (.int (sb_top pa pp pd)), (.long (sb_v pa pp pd)), (.int (18 : Int32)), (.ref ad1)])) _
  refine XS.iconst X73.here hx rfl (hb hby at_634) ?_
  show Steps p.tables e below (T73.setTop (mkF m 635 #[.val (.long pa), .second, .val (.int pp), s3, s4, .val (.int pd), s6, s7, s8, s9, s10, .val (.ref pw), .val (.long (sb_v pa pp pd)), .second, .val (.int (sb_n pa pp pd)), .val (.int (sb_top pa pp pd)), .val (.ref ad1), .unset, .unset, .unset, .unset, .unset, .unset, .unset, .unset] [(.int (1 : Int32)), (.int (sb_n pa pp pd)), (.int (sb_top pa pp pd)), (.long (sb_v pa pp pd)), (.int (18 : Int32)), (.ref ad1)])) _
  refine XS.aload X73.here hx rfl (hb hby at_635) rfl rfl ?_
  show Steps p.tables e below (T73.setTop (mkF m 637 #[.val (.long pa), .second, .val (.int pp), s3, s4, .val (.int pd), s6, s7, s8, s9, s10, .val (.ref pw), .val (.long (sb_v pa pp pd)), .second, .val (.int (sb_n pa pp pd)), .val (.int (sb_top pa pp pd)), .val (.ref ad1), .unset, .unset, .unset, .unset, .unset, .unset, .unset, .unset] [(.ref pw), (.int (1 : Int32)), (.int (sb_n pa pp pd)), (.int (sb_top pa pp pd)), (.long (sb_v pa pp pd)), (.int (18 : Int32)), (.ref ad1)])) _
  refine st76 _ ?_
  show Steps p.tables e below (T76.setTop (mkF m 640 #[.val (.long pa), .second, .val (.int pp), s3, s4, .val (.int pd), s6, s7, s8, s9, s10, .val (.ref pw), .val (.long (sb_v pa pp pd)), .second, .val (.int (sb_n pa pp pd)), .val (.int (sb_top pa pp pd)), .val (.ref ad1), .unset, .unset, .unset, .unset, .unset, .unset, .unset, .unset] [(.int (dig_res (sb_v pa pp pd) (sb_top pa pp pd) (sb_n pa pp pd) (1 : Int32))), (.int (18 : Int32)), (.ref ad1)])) _
  refine st77 _ ?_
  show Steps p.tables e below (T77.setTop (mkF m 641 #[.val (.long pa), .second, .val (.int pp), s3, s4, .val (.int pd), s6, s7, s8, s9, s10, .val (.ref pw), .val (.long (sb_v pa pp pd)), .second, .val (.int (sb_n pa pp pd)), .val (.int (sb_top pa pp pd)), .val (.ref ad1), .unset, .unset, .unset, .unset, .unset, .unset, .unset, .unset] [])) _
  refine XS.aload X77.here hx rfl (hb hby at_641) rfl rfl ?_
  show Steps p.tables e below (T77.setTop (mkF m 643 #[.val (.long pa), .second, .val (.int pp), s3, s4, .val (.int pd), s6, s7, s8, s9, s10, .val (.ref pw), .val (.long (sb_v pa pp pd)), .second, .val (.int (sb_n pa pp pd)), .val (.int (sb_top pa pp pd)), .val (.ref ad1), .unset, .unset, .unset, .unset, .unset, .unset, .unset, .unset] [(.ref ad1)])) _
  refine XS.bipush X77.here hx rfl (hb hby at_643) ?_
  show Steps p.tables e below (T77.setTop (mkF m 645 #[.val (.long pa), .second, .val (.int pp), s3, s4, .val (.int pd), s6, s7, s8, s9, s10, .val (.ref pw), .val (.long (sb_v pa pp pd)), .second, .val (.int (sb_n pa pp pd)), .val (.int (sb_top pa pp pd)), .val (.ref ad1), .unset, .unset, .unset, .unset, .unset, .unset, .unset, .unset] [(.int (19 : Int32)), (.ref ad1)])) _
  refine XT.lload X77.here hx rfl (hb hby at_645) rfl ?_
  show Steps p.tables e below (T77.setTop (mkF m 647 #[.val (.long pa), .second, .val (.int pp), s3, s4, .val (.int pd), s6, s7, s8, s9, s10, .val (.ref pw), .val (.long (sb_v pa pp pd)), .second, .val (.int (sb_n pa pp pd)), .val (.int (sb_top pa pp pd)), .val (.ref ad1), .unset, .unset, .unset, .unset, .unset, .unset, .unset, .unset] [(.long (sb_v pa pp pd)), (.int (19 : Int32)), (.ref ad1)])) _
  refine XS.iload X77.here hx rfl (hb hby at_647) rfl ?_
  show Steps p.tables e below (T77.setTop (mkF m 649 #[.val (.long pa), .second, .val (.int pp), s3, s4, .val (.int pd), s6, s7, s8, s9, s10, .val (.ref pw), .val (.long (sb_v pa pp pd)), .second, .val (.int (sb_n pa pp pd)), .val (.int (sb_top pa pp pd)), .val (.ref ad1), .unset, .unset, .unset, .unset, .unset, .unset, .unset, .unset] [(.int (sb_top pa pp pd)), (.long (sb_v pa pp pd)), (.int (19 : Int32)), (.ref ad1)])) _
  refine XS.iload X77.here hx rfl (hb hby at_649) rfl ?_
  show Steps p.tables e below (T77.setTop (mkF m 651 #[.val (.long pa), .second, .val (.int pp), s3, s4, .val (.int pd), s6, s7, s8, s9, s10, .val (.ref pw), .val (.long (sb_v pa pp pd)), .second, .val (.int (sb_n pa pp pd)), .val (.int (sb_top pa pp pd)), .val (.ref ad1), .unset, .unset, .unset, .unset, .unset, .unset, .unset, .unset] [(.int (sb_n pa pp pd)), (.int (sb_top pa pp pd)), (.long (sb_v pa pp pd)), (.int (19 : Int32)), (.ref ad1)])) _
  refine XS.iconst X77.here hx rfl (hb hby at_651) ?_
  show Steps p.tables e below (T77.setTop (mkF m 652 #[.val (.long pa), .second, .val (.int pp), s3, s4, .val (.int pd), s6, s7, s8, s9, s10, .val (.ref pw), .val (.long (sb_v pa pp pd)), .second, .val (.int (sb_n pa pp pd)), .val (.int (sb_top pa pp pd)), .val (.ref ad1), .unset, .unset, .unset, .unset, .unset, .unset, .unset, .unset] [(.int (0 : Int32)), (.int (sb_n pa pp pd)), (.int (sb_top pa pp pd)), (.long (sb_v pa pp pd)), (.int (19 : Int32)), (.ref ad1)])) _
  refine XS.aload X77.here hx rfl (hb hby at_652) rfl rfl ?_
  show Steps p.tables e below (T77.setTop (mkF m 654 #[.val (.long pa), .second, .val (.int pp), s3, s4, .val (.int pd), s6, s7, s8, s9, s10, .val (.ref pw), .val (.long (sb_v pa pp pd)), .second, .val (.int (sb_n pa pp pd)), .val (.int (sb_top pa pp pd)), .val (.ref ad1), .unset, .unset, .unset, .unset, .unset, .unset, .unset, .unset] [(.ref pw), (.int (0 : Int32)), (.int (sb_n pa pp pd)), (.int (sb_top pa pp pd)), (.long (sb_v pa pp pd)), (.int (19 : Int32)), (.ref ad1)])) _
  refine st80 _ ?_
  show Steps p.tables e below (T80.setTop (mkF m 657 #[.val (.long pa), .second, .val (.int pp), s3, s4, .val (.int pd), s6, s7, s8, s9, s10, .val (.ref pw), .val (.long (sb_v pa pp pd)), .second, .val (.int (sb_n pa pp pd)), .val (.int (sb_top pa pp pd)), .val (.ref ad1), .unset, .unset, .unset, .unset, .unset, .unset, .unset, .unset] [(.int (dig_res (sb_v pa pp pd) (sb_top pa pp pd) (sb_n pa pp pd) (0 : Int32))), (.int (19 : Int32)), (.ref ad1)])) _
  refine st81 _ ?_
  show Steps p.tables e below (T81.setTop (mkF m 658 #[.val (.long pa), .second, .val (.int pp), s3, s4, .val (.int pd), s6, s7, s8, s9, s10, .val (.ref pw), .val (.long (sb_v pa pp pd)), .second, .val (.int (sb_n pa pp pd)), .val (.int (sb_top pa pp pd)), .val (.ref ad1), .unset, .unset, .unset, .unset, .unset, .unset, .unset, .unset] [])) _
  exact k
def sc1_ch (pq : Int32) (pc : Int32) (n : Int32) (top : Int32) : Int32 := (if (if_icmp.holds .lt (pc &&& (255 : Int32)) (48 : Int32)) = true then (pc &&& (255 : Int32)) else (if (if_icmp.holds .gt (pc &&& (255 : Int32)) (57 : Int32)) = true then (pc &&& (255 : Int32)) else ((pc &&& (255 : Int32)) + (10 : Int32))))
def sc1_big (pq : Int32) (pc : Int32) (n : Int32) (top : Int32) : Int32 := (if (if_icmp.holds .ne n (20 : Int32)) = true then (0 : Int32) else (if (ifCond.holds .eq top) = true then (0 : Int32) else (1 : Int32)))
def sc0_big (pq : Int32) (pc : Int32) (n : Int32) (top : Int32) : Int32 := (if (if_icmp.holds .ne n (20 : Int32)) = true then (0 : Int32) else (if (ifCond.holds .eq top) = true then (0 : Int32) else (1 : Int32)))
set_option maxRecDepth 65536 in
set_option maxHeartbeats 40000000 in
theorem seg_C1 {p : Program} {l : Launch} {e : Env} {s : State} {m : MethodId} {args : Array Value} {below : List Frame} {meth : Method} {c : Code} {T0 : State} {locs : List Loc} {Z : State} {a0 : Array Value} {h0 : Heap} {n0 : Nat} (pq pc n top : Int32) (pw tc : Addr) (kp kt : ClassId) (ts : List Int32) (s0 s1 s2 s5 s6 s7 s8 s9 s10 s12 s13 : Slot) (hx : p.tables.exec = Jvm.exec) (hZ : Z.Warmed39 s.vm) (hw : ∀ d ∈ tables_1, d.before a0 Z = true) (hby : c.code = code) (hml : c.maxLocals = 25) (hown : s.vm.findClass "com/example/kontrakt/kontrakt/input/NumeralsCountPinLaw" = some m.cls) (hts : ts.length = 20) (hq1 : ifCond.holds .eq (pq &&& (1 : Int32)) = false) (O0 : Old Z n0 h0) (P0 : Arv Z h0 pw kp .long (19 : Int32) own_pwv (.long (0 : Int64))) (C0 : Arv Z h0 tc kt .char (20 : Int32) (ts.map Value.int) (.int (0 : Int32))) (w0 : n0 ≤ tc) (d0 : pw ≠ tc)
    (X0 : Stand p l e room_1 s m args below meth c T0 locs 2 39) (e0 : T0.heap = h0) (N0 : Fr n0 locs) (Z0 : n0 ≤ h0.size) : ∃ (T' : State) (h' : Heap) (locs' : List Loc) , Stand p l e room_1 s m args below meth c T' locs' 2 39 ∧ T'.heap = h' ∧ Fr n0 locs' ∧ n0 ≤ h'.size ∧ Old Z n0 h' ∧ Arv Z h' pw kp .long (19 : Int32) own_pwv (.long (0 : Int64)) ∧ Arv Z h' tc kt .char (20 : Int32) ((own_cs pq pc ts).map Value.int) (.int (0 : Int32)) ∧ ∀ target, Steps p.tables e below (T'.setTop (mkF m 736 #[s0, s1, s2, .val (.int pq), .val (.int pc), s5, s6, s7, s8, s9, s10, .val (.ref pw), s12, s13, .val (.int n), .val (.int top), .val (.ref tc), .val (.int (own_bad pq)), .val (.int (own_big n top)), .unset, .unset, .unset, .unset, .unset, .unset] [])) target → Steps p.tables e below (T0.setTop (mkF m 658 #[s0, s1, s2, .val (.int pq), .val (.int pc), s5, s6, s7, s8, s9, s10, .val (.ref pw), s12, s13, .val (.int n), .val (.int top), .val (.ref tc), .unset, .unset, .unset, .unset, .unset, .unset, .unset, .unset] [])) target := by
  obtain ⟨c4, A4, q4, S4, M4, H4, U4⟩ := id C0
  obtain ⟨T4, h4, X4, e4, W4, st4⟩ := stC X0 hx hZ e0 A4 (j := ((XT.ushr pq (3 : Int32)) - (XT.ushr pq (3 : Int32)) / (20 : Int32) * (20 : Int32))) (inb_of S4 (own_ix pq)) (g := (mkF m 716 #[s0, s1, s2, .val (.int pq), .val (.int pc), s5, s6, s7, s8, s9, s10, .val (.ref pw), s12, s13, .val (.int n), .val (.int top), .val (.ref tc), .val (.int (1 : Int32)), .val (.int (sc1_ch pq pc n top)), .unset, .unset, .unset, .unset, .unset, .unset] [(.int ((Int32.toUInt32 (sc1_ch pq pc n top)).toUInt16.toUInt32.toInt32)), (.int ((XT.ushr pq (3 : Int32)) - (XT.ushr pq (3 : Int32)) / (20 : Int32) * (20 : Int32))), (.ref tc)])) rfl rfl (hb hby at_716)
  have Nn4 := Fr.snoc X4 N0 w0
  have q5 : Old Z n0 h4 := (O0.wr W4 w0)
  have q6 : Arv Z h4 pw kp .long (19 : Int32) own_pwv (.long (0 : Int64)) := (P0.other W4 d0)
  have V4 : Arv Z h4 tc kt .char (20 : Int32) ((ts.map Value.int).set ((XT.ushr pq (3 : Int32)) - (XT.ushr pq (3 : Int32)) / (20 : Int32) * (20 : Int32)).toNatClampNeg (.int (nar .char ((Int32.toUInt32 (sc1_ch pq pc n top)).toUInt16.toUInt32.toInt32)))) (.int (0 : Int32)) := (Arv.set A4 q4 S4 M4 H4 U4 (fits_nar_char _) W4 ((XT.ushr pq (3 : Int32)) - (XT.ushr pq (3 : Int32)) / (20 : Int32) * (20 : Int32)).toNatClampNeg rfl (own_ixl pq hts))
  have Z4 : n0 ≤ h4.size := Nat.le_trans Z0 (Keep.of_wr W4).1
  have V10 : Arv Z h4 tc kt .char (20 : Int32) ((own_cs pq pc ts).map Value.int) (.int (0 : Int32)) := (own_csb hq1 V4)
  refine ⟨T4, _, _, X4, e4, Nn4, Z4, q5, q6, V10, fun target k => ?_⟩
  show Steps p.tables e below (T0.setTop (mkF m 658 #[s0, s1, s2, .val (.int pq), .val (.int pc), s5, s6, s7, s8, s9, s10, .val (.ref pw), s12, s13, .val (.int n), .val (.int top), .val (.ref tc), .unset, .unset, .unset, .unset, .unset, .unset, .unset, .unset] [])) _
  refine XS.iloadN X0.here hx rfl (hb hby at_658) rfl ?_
  show Steps p.tables e below (T0.setTop (mkF m 659 #[s0, s1, s2, .val (.int pq), .val (.int pc), s5, s6, s7, s8, s9, s10, .val (.ref pw), s12, s13, .val (.int n), .val (.int top), .val (.ref tc), .unset, .unset, .unset, .unset, .unset, .unset, .unset, .unset] [(.int pq)])) _
  refine XS.iconst X0.here hx rfl (hb hby at_659) ?_
  show Steps p.tables e below (T0.setTop (mkF m 660 #[s0, s1, s2, .val (.int pq), .val (.int pc), s5, s6, s7, s8, s9, s10, .val (.ref pw), s12, s13, .val (.int n), .val (.int top), .val (.ref tc), .unset, .unset, .unset, .unset, .unset, .unset, .unset, .unset] [(.int (1 : Int32)), (.int pq)])) _
  refine XS.iand X0.here hx rfl (hb hby at_660) rfl ?_
  show Steps p.tables e below (T0.setTop (mkF m 661 #[s0, s1, s2, .val (.int pq), .val (.int pc), s5, s6, s7, s8, s9, s10, .val (.ref pw), s12, s13, .val (.int n), .val (.int top), .val (.ref tc), .unset, .unset, .unset, .unset, .unset, .unset, .unset, .unset] [(.int (pq &&& (1 : Int32)))])) _
  refine XS.ifNo X0.here hx rfl (hb hby at_661) rfl hq1 ?_
  show Steps p.tables e below (T0.setTop (mkF m 664 #[s0, s1, s2, .val (.int pq), .val (.int pc), s5, s6, s7, s8, s9, s10, .val (.ref pw), s12, s13, .val (.int n), .val (.int top), .val (.ref tc), .unset, .unset, .unset, .unset, .unset, .unset, .unset, .unset] [])) _
  refine XS.iconst X0.here hx rfl (hb hby at_664) ?_
  show Steps p.tables e below (T0.setTop (mkF m 665 #[s0, s1, s2, .val (.int pq), .val (.int pc), s5, s6, s7, s8, s9, s10, .val (.ref pw), s12, s13, .val (.int n), .val (.int top), .val (.ref tc), .unset, .unset, .unset, .unset, .unset, .unset, .unset, .unset] [(.int (1 : Int32))])) _
  refine XS.goto X0.here hx rfl (pc0 := 665) (pc' := 669) rfl (hb hby at_665) (by decide) (by decide) ?_
  show Steps p.tables e below (T0.setTop (mkF m 669 #[s0, s1, s2, .val (.int pq), .val (.int pc), s5, s6, s7, s8, s9, s10, .val (.ref pw), s12, s13, .val (.int n), .val (.int top), .val (.ref tc), .unset, .unset, .unset, .unset, .unset, .unset, .unset, .unset] [(.int (1 : Int32))])) _
  refine XS.istore X0.here hx rfl (hb hby at_669) rfl (l' := #[s0, s1, s2, .val (.int pq), .val (.int pc), s5, s6, s7, s8, s9, s10, .val (.ref pw), s12, s13, .val (.int n), .val (.int top), .val (.ref tc), .val (.int (1 : Int32)), .unset, .unset, .unset, .unset, .unset, .unset, .unset]) rfl ?_
  show Steps p.tables e below (T0.setTop (mkF m 671 #[s0, s1, s2, .val (.int pq), .val (.int pc), s5, s6, s7, s8, s9, s10, .val (.ref pw), s12, s13, .val (.int n), .val (.int top), .val (.ref tc), .val (.int (1 : Int32)), .unset, .unset, .unset, .unset, .unset, .unset, .unset] [])) _
  refine XS.iload X0.here hx rfl (hb hby at_671) rfl ?_
  show Steps p.tables e below (T0.setTop (mkF m 673 #[s0, s1, s2, .val (.int pq), .val (.int pc), s5, s6, s7, s8, s9, s10, .val (.ref pw), s12, s13, .val (.int n), .val (.int top), .val (.ref tc), .val (.int (1 : Int32)), .unset, .unset, .unset, .unset, .unset, .unset, .unset] [(.int (1 : Int32))])) _
  refine XS.ifNo X0.here hx rfl (hb hby at_673) rfl rfl ?_
  show Steps p.tables e below (T0.setTop (mkF m 676 #[s0, s1, s2, .val (.int pq), .val (.int pc), s5, s6, s7, s8, s9, s10, .val (.ref pw), s12, s13, .val (.int n), .val (.int top), .val (.ref tc), .val (.int (1 : Int32)), .unset, .unset, .unset, .unset, .unset, .unset, .unset] [])) _
  refine XS.iload X0.here hx rfl (hb hby at_676) rfl ?_
  show Steps p.tables e below (T0.setTop (mkF m 678 #[s0, s1, s2, .val (.int pq), .val (.int pc), s5, s6, s7, s8, s9, s10, .val (.ref pw), s12, s13, .val (.int n), .val (.int top), .val (.ref tc), .val (.int (1 : Int32)), .unset, .unset, .unset, .unset, .unset, .unset, .unset] [(.int pc)])) _
  refine XS.sipush X0.here hx rfl (hb hby at_678) ?_
  show Steps p.tables e below (T0.setTop (mkF m 681 #[s0, s1, s2, .val (.int pq), .val (.int pc), s5, s6, s7, s8, s9, s10, .val (.ref pw), s12, s13, .val (.int n), .val (.int top), .val (.ref tc), .val (.int (1 : Int32)), .unset, .unset, .unset, .unset, .unset, .unset, .unset] [(.int (255 : Int32)), (.int pc)])) _
  refine XS.iand X0.here hx rfl (hb hby at_681) rfl ?_
  show Steps p.tables e below (T0.setTop (mkF m 682 #[s0, s1, s2, .val (.int pq), .val (.int pc), s5, s6, s7, s8, s9, s10, .val (.ref pw), s12, s13, .val (.int n), .val (.int top), .val (.ref tc), .val (.int (1 : Int32)), .unset, .unset, .unset, .unset, .unset, .unset, .unset] [(.int (pc &&& (255 : Int32)))])) _
  refine XS.istore X0.here hx rfl (hb hby at_682) rfl (l' := #[s0, s1, s2, .val (.int pq), .val (.int pc), s5, s6, s7, s8, s9, s10, .val (.ref pw), s12, s13, .val (.int n), .val (.int top), .val (.ref tc), .val (.int (1 : Int32)), .val (.int (pc &&& (255 : Int32))), .unset, .unset, .unset, .unset, .unset, .unset]) rfl ?_
  show Steps p.tables e below (T0.setTop (mkF m 684 #[s0, s1, s2, .val (.int pq), .val (.int pc), s5, s6, s7, s8, s9, s10, .val (.ref pw), s12, s13, .val (.int n), .val (.int top), .val (.ref tc), .val (.int (1 : Int32)), .val (.int (pc &&& (255 : Int32))), .unset, .unset, .unset, .unset, .unset, .unset] [])) _
  refine XS.iload X0.here hx rfl (hb hby at_684) rfl ?_
  show Steps p.tables e below (T0.setTop (mkF m 686 #[s0, s1, s2, .val (.int pq), .val (.int pc), s5, s6, s7, s8, s9, s10, .val (.ref pw), s12, s13, .val (.int n), .val (.int top), .val (.ref tc), .val (.int (1 : Int32)), .val (.int (pc &&& (255 : Int32))), .unset, .unset, .unset, .unset, .unset, .unset] [(.int (pc &&& (255 : Int32)))])) _
  refine XS.bipush X0.here hx rfl (hb hby at_686) ?_
  show Steps p.tables e below (T0.setTop (mkF m 688 #[s0, s1, s2, .val (.int pq), .val (.int pc), s5, s6, s7, s8, s9, s10, .val (.ref pw), s12, s13, .val (.int n), .val (.int top), .val (.ref tc), .val (.int (1 : Int32)), .val (.int (pc &&& (255 : Int32))), .unset, .unset, .unset, .unset, .unset, .unset] [(.int (48 : Int32)), (.int (pc &&& (255 : Int32)))])) _
  have sg1 : ∀ t, Steps p.tables e below (T0.setTop (mkF m 705 #[s0, s1, s2, .val (.int pq), .val (.int pc), s5, s6, s7, s8, s9, s10, .val (.ref pw), s12, s13, .val (.int n), .val (.int top), .val (.ref tc), .val (.int (1 : Int32)), .val (.int (sc1_ch pq pc n top)), .unset, .unset, .unset, .unset, .unset, .unset] [])) t → Steps p.tables e below (T0.setTop (mkF m 688 #[s0, s1, s2, .val (.int pq), .val (.int pc), s5, s6, s7, s8, s9, s10, .val (.ref pw), s12, s13, .val (.int n), .val (.int top), .val (.ref tc), .val (.int (1 : Int32)), .val (.int (pc &&& (255 : Int32))), .unset, .unset, .unset, .unset, .unset, .unset] [(.int (48 : Int32)), (.int (pc &&& (255 : Int32)))])) t := by
    intro t k
    by_cases c2 : (if_icmp.holds .lt (pc &&& (255 : Int32)) (48 : Int32)) = true
    · refine XS.icmpYes X0.here hx rfl (pc0 := 688) (pc' := 705) rfl (hb hby at_688) rfl c2 (by decide) (by decide) ?_
      show Steps p.tables e below (T0.setTop (mkF m 705 #[s0, s1, s2, .val (.int pq), .val (.int pc), s5, s6, s7, s8, s9, s10, .val (.ref pw), s12, s13, .val (.int n), .val (.int top), .val (.ref tc), .val (.int (1 : Int32)), .val (.int (pc &&& (255 : Int32))), .unset, .unset, .unset, .unset, .unset, .unset] [])) t
      have q : (sc1_ch pq pc n top) = (pc &&& (255 : Int32)) := by simp only [sc1_ch, c2, if_true, if_false, Bool.false_eq_true]; try rfl
      rw [q] at k
      clear q
      exact k
    · refine XS.icmpNo X0.here hx rfl (hb hby at_688) rfl (Bool.eq_false_iff.mpr c2) ?_
      show Steps p.tables e below (T0.setTop (mkF m 691 #[s0, s1, s2, .val (.int pq), .val (.int pc), s5, s6, s7, s8, s9, s10, .val (.ref pw), s12, s13, .val (.int n), .val (.int top), .val (.ref tc), .val (.int (1 : Int32)), .val (.int (pc &&& (255 : Int32))), .unset, .unset, .unset, .unset, .unset, .unset] [])) t
      refine XS.iload X0.here hx rfl (hb hby at_691) rfl ?_
      show Steps p.tables e below (T0.setTop (mkF m 693 #[s0, s1, s2, .val (.int pq), .val (.int pc), s5, s6, s7, s8, s9, s10, .val (.ref pw), s12, s13, .val (.int n), .val (.int top), .val (.ref tc), .val (.int (1 : Int32)), .val (.int (pc &&& (255 : Int32))), .unset, .unset, .unset, .unset, .unset, .unset] [(.int (pc &&& (255 : Int32)))])) t
      refine XS.bipush X0.here hx rfl (hb hby at_693) ?_
      show Steps p.tables e below (T0.setTop (mkF m 695 #[s0, s1, s2, .val (.int pq), .val (.int pc), s5, s6, s7, s8, s9, s10, .val (.ref pw), s12, s13, .val (.int n), .val (.int top), .val (.ref tc), .val (.int (1 : Int32)), .val (.int (pc &&& (255 : Int32))), .unset, .unset, .unset, .unset, .unset, .unset] [(.int (57 : Int32)), (.int (pc &&& (255 : Int32)))])) t
      by_cases c3 : (if_icmp.holds .gt (pc &&& (255 : Int32)) (57 : Int32)) = true
      · refine XS.icmpYes X0.here hx rfl (pc0 := 695) (pc' := 705) rfl (hb hby at_695) rfl c3 (by decide) (by decide) ?_
        show Steps p.tables e below (T0.setTop (mkF m 705 #[s0, s1, s2, .val (.int pq), .val (.int pc), s5, s6, s7, s8, s9, s10, .val (.ref pw), s12, s13, .val (.int n), .val (.int top), .val (.ref tc), .val (.int (1 : Int32)), .val (.int (pc &&& (255 : Int32))), .unset, .unset, .unset, .unset, .unset, .unset] [])) t
        have q : (sc1_ch pq pc n top) = (pc &&& (255 : Int32)) := by simp only [sc1_ch, c2, c3, if_true, if_false, Bool.false_eq_true]; try rfl
        rw [q] at k
        clear q
        exact k
      · refine XS.icmpNo X0.here hx rfl (hb hby at_695) rfl (Bool.eq_false_iff.mpr c3) ?_
        show Steps p.tables e below (T0.setTop (mkF m 698 #[s0, s1, s2, .val (.int pq), .val (.int pc), s5, s6, s7, s8, s9, s10, .val (.ref pw), s12, s13, .val (.int n), .val (.int top), .val (.ref tc), .val (.int (1 : Int32)), .val (.int (pc &&& (255 : Int32))), .unset, .unset, .unset, .unset, .unset, .unset] [])) t
        refine XS.iload X0.here hx rfl (hb hby at_698) rfl ?_
        show Steps p.tables e below (T0.setTop (mkF m 700 #[s0, s1, s2, .val (.int pq), .val (.int pc), s5, s6, s7, s8, s9, s10, .val (.ref pw), s12, s13, .val (.int n), .val (.int top), .val (.ref tc), .val (.int (1 : Int32)), .val (.int (pc &&& (255 : Int32))), .unset, .unset, .unset, .unset, .unset, .unset] [(.int (pc &&& (255 : Int32)))])) t
        refine XS.bipush X0.here hx rfl (hb hby at_700) ?_
        show Steps p.tables e below (T0.setTop (mkF m 702 #[s0, s1, s2, .val (.int pq), .val (.int pc), s5, s6, s7, s8, s9, s10, .val (.ref pw), s12, s13, .val (.int n), .val (.int top), .val (.ref tc), .val (.int (1 : Int32)), .val (.int (pc &&& (255 : Int32))), .unset, .unset, .unset, .unset, .unset, .unset] [(.int (10 : Int32)), (.int (pc &&& (255 : Int32)))])) t
        refine XS.iadd X0.here hx rfl (hb hby at_702) rfl ?_
        show Steps p.tables e below (T0.setTop (mkF m 703 #[s0, s1, s2, .val (.int pq), .val (.int pc), s5, s6, s7, s8, s9, s10, .val (.ref pw), s12, s13, .val (.int n), .val (.int top), .val (.ref tc), .val (.int (1 : Int32)), .val (.int (pc &&& (255 : Int32))), .unset, .unset, .unset, .unset, .unset, .unset] [(.int ((pc &&& (255 : Int32)) + (10 : Int32)))])) t
        refine XS.istore X0.here hx rfl (hb hby at_703) rfl (l' := #[s0, s1, s2, .val (.int pq), .val (.int pc), s5, s6, s7, s8, s9, s10, .val (.ref pw), s12, s13, .val (.int n), .val (.int top), .val (.ref tc), .val (.int (1 : Int32)), .val (.int ((pc &&& (255 : Int32)) + (10 : Int32))), .unset, .unset, .unset, .unset, .unset, .unset]) rfl ?_
        show Steps p.tables e below (T0.setTop (mkF m 705 #[s0, s1, s2, .val (.int pq), .val (.int pc), s5, s6, s7, s8, s9, s10, .val (.ref pw), s12, s13, .val (.int n), .val (.int top), .val (.ref tc), .val (.int (1 : Int32)), .val (.int ((pc &&& (255 : Int32)) + (10 : Int32))), .unset, .unset, .unset, .unset, .unset, .unset] [])) t
        have q : (sc1_ch pq pc n top) = ((pc &&& (255 : Int32)) + (10 : Int32)) := by simp only [sc1_ch, c2, c3, if_true, if_false, Bool.false_eq_true]; try rfl
        rw [q] at k
        clear q
        exact k
  refine sg1 _ ?_
  show Steps p.tables e below (T0.setTop (mkF m 705 #[s0, s1, s2, .val (.int pq), .val (.int pc), s5, s6, s7, s8, s9, s10, .val (.ref pw), s12, s13, .val (.int n), .val (.int top), .val (.ref tc), .val (.int (1 : Int32)), .val (.int (sc1_ch pq pc n top)), .unset, .unset, .unset, .unset, .unset, .unset] [])) _
  refine XS.aload X0.here hx rfl (hb hby at_705) rfl rfl ?_
  show Steps p.tables e below (T0.setTop (mkF m 707 #[s0, s1, s2, .val (.int pq), .val (.int pc), s5, s6, s7, s8, s9, s10, .val (.ref pw), s12, s13, .val (.int n), .val (.int top), .val (.ref tc), .val (.int (1 : Int32)), .val (.int (sc1_ch pq pc n top)), .unset, .unset, .unset, .unset, .unset, .unset] [(.ref tc)])) _
  refine XS.iloadN X0.here hx rfl (hb hby at_707) rfl ?_
  show Steps p.tables e below (T0.setTop (mkF m 708 #[s0, s1, s2, .val (.int pq), .val (.int pc), s5, s6, s7, s8, s9, s10, .val (.ref pw), s12, s13, .val (.int n), .val (.int top), .val (.ref tc), .val (.int (1 : Int32)), .val (.int (sc1_ch pq pc n top)), .unset, .unset, .unset, .unset, .unset, .unset] [(.int pq), (.ref tc)])) _
  refine XS.iconst X0.here hx rfl (hb hby at_708) ?_
  show Steps p.tables e below (T0.setTop (mkF m 709 #[s0, s1, s2, .val (.int pq), .val (.int pc), s5, s6, s7, s8, s9, s10, .val (.ref pw), s12, s13, .val (.int n), .val (.int top), .val (.ref tc), .val (.int (1 : Int32)), .val (.int (sc1_ch pq pc n top)), .unset, .unset, .unset, .unset, .unset, .unset] [(.int (3 : Int32)), (.int pq), (.ref tc)])) _
  refine XT.iushr X0.here hx rfl (hb hby at_709) rfl ?_
  show Steps p.tables e below (T0.setTop (mkF m 710 #[s0, s1, s2, .val (.int pq), .val (.int pc), s5, s6, s7, s8, s9, s10, .val (.ref pw), s12, s13, .val (.int n), .val (.int top), .val (.ref tc), .val (.int (1 : Int32)), .val (.int (sc1_ch pq pc n top)), .unset, .unset, .unset, .unset, .unset, .unset] [(.int (XT.ushr pq (3 : Int32))), (.ref tc)])) _
  refine XS.bipush X0.here hx rfl (hb hby at_710) ?_
  show Steps p.tables e below (T0.setTop (mkF m 712 #[s0, s1, s2, .val (.int pq), .val (.int pc), s5, s6, s7, s8, s9, s10, .val (.ref pw), s12, s13, .val (.int n), .val (.int top), .val (.ref tc), .val (.int (1 : Int32)), .val (.int (sc1_ch pq pc n top)), .unset, .unset, .unset, .unset, .unset, .unset] [(.int (20 : Int32)), (.int (XT.ushr pq (3 : Int32))), (.ref tc)])) _
  refine XS.irem X0.here hx rfl (hb hby at_712) rfl (by decide) ?_
  show Steps p.tables e below (T0.setTop (mkF m 713 #[s0, s1, s2, .val (.int pq), .val (.int pc), s5, s6, s7, s8, s9, s10, .val (.ref pw), s12, s13, .val (.int n), .val (.int top), .val (.ref tc), .val (.int (1 : Int32)), .val (.int (sc1_ch pq pc n top)), .unset, .unset, .unset, .unset, .unset, .unset] [(.int ((XT.ushr pq (3 : Int32)) - (XT.ushr pq (3 : Int32)) / (20 : Int32) * (20 : Int32))), (.ref tc)])) _
  refine XS.iload X0.here hx rfl (hb hby at_713) rfl ?_
  show Steps p.tables e below (T0.setTop (mkF m 715 #[s0, s1, s2, .val (.int pq), .val (.int pc), s5, s6, s7, s8, s9, s10, .val (.ref pw), s12, s13, .val (.int n), .val (.int top), .val (.ref tc), .val (.int (1 : Int32)), .val (.int (sc1_ch pq pc n top)), .unset, .unset, .unset, .unset, .unset, .unset] [(.int (sc1_ch pq pc n top)), (.int ((XT.ushr pq (3 : Int32)) - (XT.ushr pq (3 : Int32)) / (20 : Int32) * (20 : Int32))), (.ref tc)])) _
  refine XT.i2c X0.here hx rfl (hb hby at_715) rfl ?_
  show Steps p.tables e below (T0.setTop (mkF m 716 #[s0, s1, s2, .val (.int pq), .val (.int pc), s5, s6, s7, s8, s9, s10, .val (.ref pw), s12, s13, .val (.int n), .val (.int top), .val (.ref tc), .val (.int (1 : Int32)), .val (.int (sc1_ch pq pc n top)), .unset, .unset, .unset, .unset, .unset, .unset] [(.int ((Int32.toUInt32 (sc1_ch pq pc n top)).toUInt16.toUInt32.toInt32)), (.int ((XT.ushr pq (3 : Int32)) - (XT.ushr pq (3 : Int32)) / (20 : Int32) * (20 : Int32))), (.ref tc)])) _
  refine st4 _ ?_
  show Steps p.tables e below (T4.setTop (mkF m 717 #[s0, s1, s2, .val (.int pq), .val (.int pc), s5, s6, s7, s8, s9, s10, .val (.ref pw), s12, s13, .val (.int n), .val (.int top), .val (.ref tc), .val (.int (1 : Int32)), .val (.int (sc1_ch pq pc n top)), .unset, .unset, .unset, .unset, .unset, .unset] [])) _
  refine XS.iload X4.here hx rfl (hb hby at_717) rfl ?_
  show Steps p.tables e below (T4.setTop (mkF m 719 #[s0, s1, s2, .val (.int pq), .val (.int pc), s5, s6, s7, s8, s9, s10, .val (.ref pw), s12, s13, .val (.int n), .val (.int top), .val (.ref tc), .val (.int (1 : Int32)), .val (.int (sc1_ch pq pc n top)), .unset, .unset, .unset, .unset, .unset, .unset] [(.int n)])) _
  refine XS.bipush X4.here hx rfl (hb hby at_719) ?_
  show Steps p.tables e below (T4.setTop (mkF m 721 #[s0, s1, s2, .val (.int pq), .val (.int pc), s5, s6, s7, s8, s9, s10, .val (.ref pw), s12, s13, .val (.int n), .val (.int top), .val (.ref tc), .val (.int (1 : Int32)), .val (.int (sc1_ch pq pc n top)), .unset, .unset, .unset, .unset, .unset, .unset] [(.int (20 : Int32)), (.int n)])) _
  have sg7 : ∀ t, Steps p.tables e below (T4.setTop (mkF m 734 #[s0, s1, s2, .val (.int pq), .val (.int pc), s5, s6, s7, s8, s9, s10, .val (.ref pw), s12, s13, .val (.int n), .val (.int top), .val (.ref tc), .val (.int (1 : Int32)), .val (.int (sc1_ch pq pc n top)), .unset, .unset, .unset, .unset, .unset, .unset] [(.int (sc1_big pq pc n top))])) t → Steps p.tables e below (T4.setTop (mkF m 721 #[s0, s1, s2, .val (.int pq), .val (.int pc), s5, s6, s7, s8, s9, s10, .val (.ref pw), s12, s13, .val (.int n), .val (.int top), .val (.ref tc), .val (.int (1 : Int32)), .val (.int (sc1_ch pq pc n top)), .unset, .unset, .unset, .unset, .unset, .unset] [(.int (20 : Int32)), (.int n)])) t := by
    intro t k
    by_cases c8 : (if_icmp.holds .ne n (20 : Int32)) = true
    · refine XS.icmpYes X4.here hx rfl (pc0 := 721) (pc' := 733) rfl (hb hby at_721) rfl c8 (by decide) (by decide) ?_
      show Steps p.tables e below (T4.setTop (mkF m 733 #[s0, s1, s2, .val (.int pq), .val (.int pc), s5, s6, s7, s8, s9, s10, .val (.ref pw), s12, s13, .val (.int n), .val (.int top), .val (.ref tc), .val (.int (1 : Int32)), .val (.int (sc1_ch pq pc n top)), .unset, .unset, .unset, .unset, .unset, .unset] [])) t
      refine XS.iconst X4.here hx rfl (hb hby at_733) ?_
      show Steps p.tables e below (T4.setTop (mkF m 734 #[s0, s1, s2, .val (.int pq), .val (.int pc), s5, s6, s7, s8, s9, s10, .val (.ref pw), s12, s13, .val (.int n), .val (.int top), .val (.ref tc), .val (.int (1 : Int32)), .val (.int (sc1_ch pq pc n top)), .unset, .unset, .unset, .unset, .unset, .unset] [(.int (0 : Int32))])) t
      have q : (sc1_big pq pc n top) = (0 : Int32) := by simp only [sc1_big, c8, if_true, if_false, Bool.false_eq_true]; try rfl
      rw [q] at k
      clear q
      exact k
    · refine XS.icmpNo X4.here hx rfl (hb hby at_721) rfl (Bool.eq_false_iff.mpr c8) ?_
      show Steps p.tables e below (T4.setTop (mkF m 724 #[s0, s1, s2, .val (.int pq), .val (.int pc), s5, s6, s7, s8, s9, s10, .val (.ref pw), s12, s13, .val (.int n), .val (.int top), .val (.ref tc), .val (.int (1 : Int32)), .val (.int (sc1_ch pq pc n top)), .unset, .unset, .unset, .unset, .unset, .unset] [])) t
      refine XS.iload X4.here hx rfl (hb hby at_724) rfl ?_
      show Steps p.tables e below (T4.setTop (mkF m 726 #[s0, s1, s2, .val (.int pq), .val (.int pc), s5, s6, s7, s8, s9, s10, .val (.ref pw), s12, s13, .val (.int n), .val (.int top), .val (.ref tc), .val (.int (1 : Int32)), .val (.int (sc1_ch pq pc n top)), .unset, .unset, .unset, .unset, .unset, .unset] [(.int top)])) t
      by_cases c9 : (ifCond.holds .eq top) = true
      · refine XS.ifYes X4.here hx rfl (pc0 := 726) (pc' := 733) rfl (hb hby at_726) rfl c9 (by decide) (by decide) ?_
        show Steps p.tables e below (T4.setTop (mkF m 733 #[s0, s1, s2, .val (.int pq), .val (.int pc), s5, s6, s7, s8, s9, s10, .val (.ref pw), s12, s13, .val (.int n), .val (.int top), .val (.ref tc), .val (.int (1 : Int32)), .val (.int (sc1_ch pq pc n top)), .unset, .unset, .unset, .unset, .unset, .unset] [])) t
        refine XS.iconst X4.here hx rfl (hb hby at_733) ?_
        show Steps p.tables e below (T4.setTop (mkF m 734 #[s0, s1, s2, .val (.int pq), .val (.int pc), s5, s6, s7, s8, s9, s10, .val (.ref pw), s12, s13, .val (.int n), .val (.int top), .val (.ref tc), .val (.int (1 : Int32)), .val (.int (sc1_ch pq pc n top)), .unset, .unset, .unset, .unset, .unset, .unset] [(.int (0 : Int32))])) t
        have q : (sc1_big pq pc n top) = (0 : Int32) := by simp only [sc1_big, c8, c9, if_true, if_false, Bool.false_eq_true]; try rfl
        rw [q] at k
        clear q
        exact k
      · refine XS.ifNo X4.here hx rfl (hb hby at_726) rfl (Bool.eq_false_iff.mpr c9) ?_
        show Steps p.tables e below (T4.setTop (mkF m 729 #[s0, s1, s2, .val (.int pq), .val (.int pc), s5, s6, s7, s8, s9, s10, .val (.ref pw), s12, s13, .val (.int n), .val (.int top), .val (.ref tc), .val (.int (1 : Int32)), .val (.int (sc1_ch pq pc n top)), .unset, .unset, .unset, .unset, .unset, .unset] [])) t
        refine XS.iconst X4.here hx rfl (hb hby at_729) ?_
        show Steps p.tables e below (T4.setTop (mkF m 730 #[s0, s1, s2, .val (.int pq), .val (.int pc), s5, s6, s7, s8, s9, s10, .val (.ref pw), s12, s13, .val (.int n), .val (.int top), .val (.ref tc), .val (.int (1 : Int32)), .val (.int (sc1_ch pq pc n top)), .unset, .unset, .unset, .unset, .unset, .unset] [(.int (1 : Int32))])) t
        refine XS.goto X4.here hx rfl (pc0 := 730) (pc' := 734) rfl (hb hby at_730) (by decide) (by decide) ?_
        show Steps p.tables e below (T4.setTop (mkF m 734 #[s0, s1, s2, .val (.int pq), .val (.int pc), s5, s6, s7, s8, s9, s10, .val (.ref pw), s12, s13, .val (.int n), .val (.int top), .val (.ref tc), .val (.int (1 : Int32)), .val (.int (sc1_ch pq pc n top)), .unset, .unset, .unset, .unset, .unset, .unset] [(.int (1 : Int32))])) t
        have q : (sc1_big pq pc n top) = (1 : Int32) := by simp only [sc1_big, c8, c9, if_true, if_false, Bool.false_eq_true]; try rfl
        rw [q] at k
        clear q
        exact k
  refine sg7 _ ?_
  show Steps p.tables e below (T4.setTop (mkF m 734 #[s0, s1, s2, .val (.int pq), .val (.int pc), s5, s6, s7, s8, s9, s10, .val (.ref pw), s12, s13, .val (.int n), .val (.int top), .val (.ref tc), .val (.int (1 : Int32)), .val (.int (sc1_ch pq pc n top)), .unset, .unset, .unset, .unset, .unset, .unset] [(.int (sc1_big pq pc n top))])) _
  refine XS.istore X4.here hx rfl (hb hby at_734) rfl (l' := #[s0, s1, s2, .val (.int pq), .val (.int pc), s5, s6, s7, s8, s9, s10, .val (.ref pw), s12, s13, .val (.int n), .val (.int top), .val (.ref tc), .val (.int (1 : Int32)), .val (.int (sc1_big pq pc n top)), .unset, .unset, .unset, .unset, .unset, .unset]) rfl ?_
  show Steps p.tables e below (T4.setTop (mkF m 736 #[s0, s1, s2, .val (.int pq), .val (.int pc), s5, s6, s7, s8, s9, s10, .val (.ref pw), s12, s13, .val (.int n), .val (.int top), .val (.ref tc), .val (.int (1 : Int32)), .val (.int (sc1_big pq pc n top)), .unset, .unset, .unset, .unset, .unset, .unset] [])) _
  rw [own_bad1 hq1] at k
  exact k
set_option maxRecDepth 65536 in
set_option maxHeartbeats 40000000 in
theorem seg_C0 {p : Program} {l : Launch} {e : Env} {s : State} {m : MethodId} {args : Array Value} {below : List Frame} {meth : Method} {c : Code} {T0 : State} {locs : List Loc} {Z : State} {a0 : Array Value} {h0 : Heap} {n0 : Nat} (pq pc n top : Int32) (pw tc : Addr) (kp kt : ClassId) (ts : List Int32) (s0 s1 s2 s5 s6 s7 s8 s9 s10 s12 s13 : Slot) (hx : p.tables.exec = Jvm.exec) (hZ : Z.Warmed39 s.vm) (hw : ∀ d ∈ tables_1, d.before a0 Z = true) (hby : c.code = code) (hml : c.maxLocals = 25) (hown : s.vm.findClass "com/example/kontrakt/kontrakt/input/NumeralsCountPinLaw" = some m.cls) (hts : ts.length = 20) (hq1 : ifCond.holds .eq (pq &&& (1 : Int32)) = true) (O0 : Old Z n0 h0) (P0 : Arv Z h0 pw kp .long (19 : Int32) own_pwv (.long (0 : Int64))) (C0 : Arv Z h0 tc kt .char (20 : Int32) (ts.map Value.int) (.int (0 : Int32))) (w0 : n0 ≤ tc) (d0 : pw ≠ tc)
    (X0 : Stand p l e room_1 s m args below meth c T0 locs 2 39) (e0 : T0.heap = h0) (N0 : Fr n0 locs) (Z0 : n0 ≤ h0.size) : ∃ (T' : State) (h' : Heap) (locs' : List Loc) , Stand p l e room_1 s m args below meth c T' locs' 2 39 ∧ T'.heap = h' ∧ Fr n0 locs' ∧ n0 ≤ h'.size ∧ Old Z n0 h' ∧ Arv Z h' pw kp .long (19 : Int32) own_pwv (.long (0 : Int64)) ∧ Arv Z h' tc kt .char (20 : Int32) ((own_cs pq pc ts).map Value.int) (.int (0 : Int32)) ∧ ∀ target, Steps p.tables e below (T'.setTop (mkF m 736 #[s0, s1, s2, .val (.int pq), .val (.int pc), s5, s6, s7, s8, s9, s10, .val (.ref pw), s12, s13, .val (.int n), .val (.int top), .val (.ref tc), .val (.int (own_bad pq)), .val (.int (own_big n top)), .unset, .unset, .unset, .unset, .unset, .unset] [])) target → Steps p.tables e below (T0.setTop (mkF m 658 #[s0, s1, s2, .val (.int pq), .val (.int pc), s5, s6, s7, s8, s9, s10, .val (.ref pw), s12, s13, .val (.int n), .val (.int top), .val (.ref tc), .unset, .unset, .unset, .unset, .unset, .unset, .unset, .unset] [])) target := by
  have V4 : Arv Z h0 tc kt .char (20 : Int32) ((own_cs pq pc ts).map Value.int) (.int (0 : Int32)) := (own_csn hq1 C0)
  refine ⟨T0, _, _, X0, e0, N0, Z0, O0, P0, V4, fun target k => ?_⟩
  show Steps p.tables e below (T0.setTop (mkF m 658 #[s0, s1, s2, .val (.int pq), .val (.int pc), s5, s6, s7, s8, s9, s10, .val (.ref pw), s12, s13, .val (.int n), .val (.int top), .val (.ref tc), .unset, .unset, .unset, .unset, .unset, .unset, .unset, .unset] [])) _
  refine XS.iloadN X0.here hx rfl (hb hby at_658) rfl ?_
  show Steps p.tables e below (T0.setTop (mkF m 659 #[s0, s1, s2, .val (.int pq), .val (.int pc), s5, s6, s7, s8, s9, s10, .val (.ref pw), s12, s13, .val (.int n), .val (.int top), .val (.ref tc), .unset, .unset, .unset, .unset, .unset, .unset, .unset, .unset] [(.int pq)])) _
  refine XS.iconst X0.here hx rfl (hb hby at_659) ?_
  show Steps p.tables e below (T0.setTop (mkF m 660 #[s0, s1, s2, .val (.int pq), .val (.int pc), s5, s6, s7, s8, s9, s10, .val (.ref pw), s12, s13, .val (.int n), .val (.int top), .val (.ref tc), .unset, .unset, .unset, .unset, .unset, .unset, .unset, .unset] [(.int (1 : Int32)), (.int pq)])) _
  refine XS.iand X0.here hx rfl (hb hby at_660) rfl ?_
  show Steps p.tables e below (T0.setTop (mkF m 661 #[s0, s1, s2, .val (.int pq), .val (.int pc), s5, s6, s7, s8, s9, s10, .val (.ref pw), s12, s13, .val (.int n), .val (.int top), .val (.ref tc), .unset, .unset, .unset, .unset, .unset, .unset, .unset, .unset] [(.int (pq &&& (1 : Int32)))])) _
  refine XS.ifYes X0.here hx rfl (pc0 := 661) (pc' := 668) rfl (hb hby at_661) rfl hq1 (by decide) (by decide) ?_
  show Steps p.tables e below (T0.setTop (mkF m 668 #[s0, s1, s2, .val (.int pq), .val (.int pc), s5, s6, s7, s8, s9, s10, .val (.ref pw), s12, s13, .val (.int n), .val (.int top), .val (.ref tc), .unset, .unset, .unset, .unset, .unset, .unset, .unset, .unset] [])) _
  refine XS.iconst X0.here hx rfl (hb hby at_668) ?_
  show Steps p.tables e below (T0.setTop (mkF m 669 #[s0, s1, s2, .val (.int pq), .val (.int pc), s5, s6, s7, s8, s9, s10, .val (.ref pw), s12, s13, .val (.int n), .val (.int top), .val (.ref tc), .unset, .unset, .unset, .unset, .unset, .unset, .unset, .unset] [(.int (0 : Int32))])) _
  refine XS.istore X0.here hx rfl (hb hby at_669) rfl (l' := #[s0, s1, s2, .val (.int pq), .val (.int pc), s5, s6, s7, s8, s9, s10, .val (.ref pw), s12, s13, .val (.int n), .val (.int top), .val (.ref tc), .val (.int (0 : Int32)), .unset, .unset, .unset, .unset, .unset, .unset, .unset]) rfl ?_
  show Steps p.tables e below (T0.setTop (mkF m 671 #[s0, s1, s2, .val (.int pq), .val (.int pc), s5, s6, s7, s8, s9, s10, .val (.ref pw), s12, s13, .val (.int n), .val (.int top), .val (.ref tc), .val (.int (0 : Int32)), .unset, .unset, .unset, .unset, .unset, .unset, .unset] [])) _
  refine XS.iload X0.here hx rfl (hb hby at_671) rfl ?_
  show Steps p.tables e below (T0.setTop (mkF m 673 #[s0, s1, s2, .val (.int pq), .val (.int pc), s5, s6, s7, s8, s9, s10, .val (.ref pw), s12, s13, .val (.int n), .val (.int top), .val (.ref tc), .val (.int (0 : Int32)), .unset, .unset, .unset, .unset, .unset, .unset, .unset] [(.int (0 : Int32))])) _
  refine XS.ifYes X0.here hx rfl (pc0 := 673) (pc' := 717) rfl (hb hby at_673) rfl rfl (by decide) (by decide) ?_
  show Steps p.tables e below (T0.setTop (mkF m 717 #[s0, s1, s2, .val (.int pq), .val (.int pc), s5, s6, s7, s8, s9, s10, .val (.ref pw), s12, s13, .val (.int n), .val (.int top), .val (.ref tc), .val (.int (0 : Int32)), .unset, .unset, .unset, .unset, .unset, .unset, .unset] [])) _
  refine XS.iload X0.here hx rfl (hb hby at_717) rfl ?_
  show Steps p.tables e below (T0.setTop (mkF m 719 #[s0, s1, s2, .val (.int pq), .val (.int pc), s5, s6, s7, s8, s9, s10, .val (.ref pw), s12, s13, .val (.int n), .val (.int top), .val (.ref tc), .val (.int (0 : Int32)), .unset, .unset, .unset, .unset, .unset, .unset, .unset] [(.int n)])) _
  refine XS.bipush X0.here hx rfl (hb hby at_719) ?_
  show Steps p.tables e below (T0.setTop (mkF m 721 #[s0, s1, s2, .val (.int pq), .val (.int pc), s5, s6, s7, s8, s9, s10, .val (.ref pw), s12, s13, .val (.int n), .val (.int top), .val (.ref tc), .val (.int (0 : Int32)), .unset, .unset, .unset, .unset, .unset, .unset, .unset] [(.int (20 : Int32)), (.int n)])) _
  have sg1 : ∀ t, Steps p.tables e below (T0.setTop (mkF m 734 #[s0, s1, s2, .val (.int pq), .val (.int pc), s5, s6, s7, s8, s9, s10, .val (.ref pw), s12, s13, .val (.int n), .val (.int top), .val (.ref tc), .val (.int (0 : Int32)), .unset, .unset, .unset, .unset, .unset, .unset, .unset] [(.int (sc0_big pq pc n top))])) t → Steps p.tables e below (T0.setTop (mkF m 721 #[s0, s1, s2, .val (.int pq), .val (.int pc), s5, s6, s7, s8, s9, s10, .val (.ref pw), s12, s13, .val (.int n), .val (.int top), .val (.ref tc), .val (.int (0 : Int32)), .unset, .unset, .unset, .unset, .unset, .unset, .unset] [(.int (20 : Int32)), (.int n)])) t := by
    intro t k
    by_cases c2 : (if_icmp.holds .ne n (20 : Int32)) = true
    · refine XS.icmpYes X0.here hx rfl (pc0 := 721) (pc' := 733) rfl (hb hby at_721) rfl c2 (by decide) (by decide) ?_
      show Steps p.tables e below (T0.setTop (mkF m 733 #[s0, s1, s2, .val (.int pq), .val (.int pc), s5, s6, s7, s8, s9, s10, .val (.ref pw), s12, s13, .val (.int n), .val (.int top), .val (.ref tc), .val (.int (0 : Int32)), .unset, .unset, .unset, .unset, .unset, .unset, .unset] [])) t
      refine XS.iconst X0.here hx rfl (hb hby at_733) ?_
      show Steps p.tables e below (T0.setTop (mkF m 734 #[s0, s1, s2, .val (.int pq), .val (.int pc), s5, s6, s7, s8, s9, s10, .val (.ref pw), s12, s13, .val (.int n), .val (.int top), .val (.ref tc), .val (.int (0 : Int32)), .unset, .unset, .unset, .unset, .unset, .unset, .unset] [(.int (0 : Int32))])) t
      have q : (sc0_big pq pc n top) = (0 : Int32) := by simp only [sc0_big, c2, if_true, if_false, Bool.false_eq_true]; try rfl
      rw [q] at k
      clear q
      exact k
    · refine XS.icmpNo X0.here hx rfl (hb hby at_721) rfl (Bool.eq_false_iff.mpr c2) ?_
      show Steps p.tables e below (T0.setTop (mkF m 724 #[s0, s1, s2, .val (.int pq), .val (.int pc), s5, s6, s7, s8, s9, s10, .val (.ref pw), s12, s13, .val (.int n), .val (.int top), .val (.ref tc), .val (.int (0 : Int32)), .unset, .unset, .unset, .unset, .unset, .unset, .unset] [])) t
      refine XS.iload X0.here hx rfl (hb hby at_724) rfl ?_
      show Steps p.tables e below (T0.setTop (mkF m 726 #[s0, s1, s2, .val (.int pq), .val (.int pc), s5, s6, s7, s8, s9, s10, .val (.ref pw), s12, s13, .val (.int n), .val (.int top), .val (.ref tc), .val (.int (0 : Int32)), .unset, .unset, .unset, .unset, .unset, .unset, .unset] [(.int top)])) t
      by_cases c3 : (ifCond.holds .eq top) = true
      · refine XS.ifYes X0.here hx rfl (pc0 := 726) (pc' := 733) rfl (hb hby at_726) rfl c3 (by decide) (by decide) ?_
        show Steps p.tables e below (T0.setTop (mkF m 733 #[s0, s1, s2, .val (.int pq), .val (.int pc), s5, s6, s7, s8, s9, s10, .val (.ref pw), s12, s13, .val (.int n), .val (.int top), .val (.ref tc), .val (.int (0 : Int32)), .unset, .unset, .unset, .unset, .unset, .unset, .unset] [])) t
        refine XS.iconst X0.here hx rfl (hb hby at_733) ?_
        show Steps p.tables e below (T0.setTop (mkF m 734 #[s0, s1, s2, .val (.int pq), .val (.int pc), s5, s6, s7, s8, s9, s10, .val (.ref pw), s12, s13, .val (.int n), .val (.int top), .val (.ref tc), .val (.int (0 : Int32)), .unset, .unset, .unset, .unset, .unset, .unset, .unset] [(.int (0 : Int32))])) t
        have q : (sc0_big pq pc n top) = (0 : Int32) := by simp only [sc0_big, c2, c3, if_true, if_false, Bool.false_eq_true]; try rfl
        rw [q] at k
        clear q
        exact k
      · refine XS.ifNo X0.here hx rfl (hb hby at_726) rfl (Bool.eq_false_iff.mpr c3) ?_
        show Steps p.tables e below (T0.setTop (mkF m 729 #[s0, s1, s2, .val (.int pq), .val (.int pc), s5, s6, s7, s8, s9, s10, .val (.ref pw), s12, s13, .val (.int n), .val (.int top), .val (.ref tc), .val (.int (0 : Int32)), .unset, .unset, .unset, .unset, .unset, .unset, .unset] [])) t
        refine XS.iconst X0.here hx rfl (hb hby at_729) ?_
        show Steps p.tables e below (T0.setTop (mkF m 730 #[s0, s1, s2, .val (.int pq), .val (.int pc), s5, s6, s7, s8, s9, s10, .val (.ref pw), s12, s13, .val (.int n), .val (.int top), .val (.ref tc), .val (.int (0 : Int32)), .unset, .unset, .unset, .unset, .unset, .unset, .unset] [(.int (1 : Int32))])) t
        refine XS.goto X0.here hx rfl (pc0 := 730) (pc' := 734) rfl (hb hby at_730) (by decide) (by decide) ?_
        show Steps p.tables e below (T0.setTop (mkF m 734 #[s0, s1, s2, .val (.int pq), .val (.int pc), s5, s6, s7, s8, s9, s10, .val (.ref pw), s12, s13, .val (.int n), .val (.int top), .val (.ref tc), .val (.int (0 : Int32)), .unset, .unset, .unset, .unset, .unset, .unset, .unset] [(.int (1 : Int32))])) t
        have q : (sc0_big pq pc n top) = (1 : Int32) := by simp only [sc0_big, c2, c3, if_true, if_false, Bool.false_eq_true]; try rfl
        rw [q] at k
        clear q
        exact k
  refine sg1 _ ?_
  show Steps p.tables e below (T0.setTop (mkF m 734 #[s0, s1, s2, .val (.int pq), .val (.int pc), s5, s6, s7, s8, s9, s10, .val (.ref pw), s12, s13, .val (.int n), .val (.int top), .val (.ref tc), .val (.int (0 : Int32)), .unset, .unset, .unset, .unset, .unset, .unset, .unset] [(.int (sc0_big pq pc n top))])) _
  refine XS.istore X0.here hx rfl (hb hby at_734) rfl (l' := #[s0, s1, s2, .val (.int pq), .val (.int pc), s5, s6, s7, s8, s9, s10, .val (.ref pw), s12, s13, .val (.int n), .val (.int top), .val (.ref tc), .val (.int (0 : Int32)), .val (.int (sc0_big pq pc n top)), .unset, .unset, .unset, .unset, .unset, .unset]) rfl ?_
  show Steps p.tables e below (T0.setTop (mkF m 736 #[s0, s1, s2, .val (.int pq), .val (.int pc), s5, s6, s7, s8, s9, s10, .val (.ref pw), s12, s13, .val (.int n), .val (.int top), .val (.ref tc), .val (.int (0 : Int32)), .val (.int (sc0_big pq pc n top)), .unset, .unset, .unset, .unset, .unset, .unset] [])) _
  rw [own_bad0 hq1] at k
  exact k
set_option maxRecDepth 65536 in
set_option maxHeartbeats 40000000 in
theorem seg_C {p : Program} {l : Launch} {e : Env} {s : State} {m : MethodId} {args : Array Value} {below : List Frame} {meth : Method} {c : Code} {T0 : State} {locs : List Loc} {Z : State} {a0 : Array Value} {h0 : Heap} {n0 : Nat} (pq pc n top : Int32) (pw tc : Addr) (kp kt : ClassId) (ts : List Int32) (s0 s1 s2 s5 s6 s7 s8 s9 s10 s12 s13 : Slot) (hx : p.tables.exec = Jvm.exec) (hZ : Z.Warmed39 s.vm) (hw : ∀ d ∈ tables_1, d.before a0 Z = true) (hby : c.code = code) (hml : c.maxLocals = 25) (hown : s.vm.findClass "com/example/kontrakt/kontrakt/input/NumeralsCountPinLaw" = some m.cls) (hts : ts.length = 20) (O0 : Old Z n0 h0) (P0 : Arv Z h0 pw kp .long (19 : Int32) own_pwv (.long (0 : Int64))) (C0 : Arv Z h0 tc kt .char (20 : Int32) (ts.map Value.int) (.int (0 : Int32))) (w0 : n0 ≤ tc) (d0 : pw ≠ tc)
    (X0 : Stand p l e room_1 s m args below meth c T0 locs 2 39) (e0 : T0.heap = h0) (N0 : Fr n0 locs) (Z0 : n0 ≤ h0.size) : ∃ (T' : State) (h' : Heap) (locs' : List Loc) , Stand p l e room_1 s m args below meth c T' locs' 2 39 ∧ T'.heap = h' ∧ Fr n0 locs' ∧ n0 ≤ h'.size ∧ Old Z n0 h' ∧ Arv Z h' pw kp .long (19 : Int32) own_pwv (.long (0 : Int64)) ∧ Arv Z h' tc kt .char (20 : Int32) ((own_cs pq pc ts).map Value.int) (.int (0 : Int32)) ∧ ∀ target, Steps p.tables e below (T'.setTop (mkF m 736 #[s0, s1, s2, .val (.int pq), .val (.int pc), s5, s6, s7, s8, s9, s10, .val (.ref pw), s12, s13, .val (.int n), .val (.int top), .val (.ref tc), .val (.int (own_bad pq)), .val (.int (own_big n top)), .unset, .unset, .unset, .unset, .unset, .unset] [])) target → Steps p.tables e below (T0.setTop (mkF m 658 #[s0, s1, s2, .val (.int pq), .val (.int pc), s5, s6, s7, s8, s9, s10, .val (.ref pw), s12, s13, .val (.int n), .val (.int top), .val (.ref tc), .unset, .unset, .unset, .unset, .unset, .unset, .unset, .unset] [])) target := by
  rcases hb : ifCond.holds .eq (pq &&& (1 : Int32)) with _ | _
  · exact seg_C1 pq pc n top pw tc kp kt ts s0 s1 s2 s5 s6 s7 s8 s9 s10 s12 s13 hx hZ hw hby hml hown hts hb O0 P0 C0 w0 d0 X0 e0 N0 Z0
  · exact seg_C0 pq pc n top pw tc kp kt ts s0 s1 s2 s5 s6 s7 s8 s9 s10 s12 s13 hx hZ hw hby hml hown hts hb O0 P0 C0 w0 d0 X0 e0 N0 Z0
theorem ef_lf (m : MethodId) (pa : Int64) (pp : Int32) (pq : Int32) (pc : Int32) (pd : Int32) (pm : Int64) : entryFrame m #[(.long pa), (.int pp), (.int pq), (.int pc), (.int pd), (.long pm)] maxLocals = (mkF m 0 #[.val (.long pa), .second, .val (.int pp), .val (.int pq), .val (.int pc), .val (.int pd), .val (.long pm), .second, .unset, .unset, .unset, .unset, .unset, .unset, .unset, .unset, .unset, .unset, .unset, .unset, .unset, .unset, .unset, .unset, .unset] []) := by first | (simp [entryFrame, mkF, argsToLocals, Value.category, maxLocals]; done) | rfl
def Q_lf (Z : State) (pa : Int64) (pp : Int32) (pq : Int32) (pc : Int32) (pd : Int32) (pm : Int64) (G1 : Int32) (G3 : Value) (h0 : Heap) (n0 : Nat) (v : Option Value) (h : Heap) (L : List Loc) : Prop := v = some (.int 1) ∧ Fr n0 L
set_option maxRecDepth 65536 in
set_option maxHeartbeats 40000000 in
theorem rm_lf (l : Launch) (Z : State) (a0 : Array Value) (hw : ∀ d ∈ tables_1, d.before a0 Z = true) (ws : List Jvm.Cond) (pa : Int64) (pp : Int32) (pq : Int32) (pc : Int32) (pd : Int32) (pm : Int64) (G1 : Int32) (G3 : Value) (h0 : Heap) (n0 : Nat) (Z0 : n0 ≤ h0.size) (k0_ : Old Z n0 h0) (O2 : Sta Z Z.heap "java/lang/String" "COMPACT_STRINGS" "Z" (.int G1)) (hz : ¬ G1 = 0) (O4 : Sta Z Z.heap "jdk/internal/util/Preconditions" "SIOOBE_FORMATTER" "Ljava/util/function/BiFunction;" G3) (rf : G3.isRef = true) (hq4 : ifCond.holds .eq (pq &&& (4 : Int32)) = true)  :
    MetFree l x (head1 (Jvm.Cond.code x code maxLocals ret :: ws) room_1) (fun a U => a = #[(.long pa), (.int pp), (.int pq), (.int pc), (.int pd), (.long pm)] ∧ Z.Warmed39 U.vm ∧ U.heap = h0) (fun _ _ _ _ _ => True) (fun _ U o U' => ∃ v L, o = .returned v ∧ Q_lf Z pa pp pq pc pd pm G1 G3 h0 n0 v U'.heap L ∧ FrameEnd U o U' L 16 192) := by
  refine MetFree.of_bodySF (plainFor_of_name pn_1) hisR ?_
  intro p e s m args below meth c s₁ Bd hml0 hP hK
  obtain ⟨rfl, hZ, hh⟩ := hP
  have hx := Bd.exec
  have hby := Bd.bytes
  have hml : c.maxLocals = 25 := hml0
  have hown : s.vm.findClass "com/example/kontrakt/kontrakt/input/NumeralsCountPinLaw" = some m.cls := findClass_of_methodNamed Bd.named
  have hnm := (name_of_methodNamed Bd.named Bd.method).1
  have X0 : Stand p l e room_1 s m #[(.long pa), (.int pp), (.int pq), (.int pc), (.int pd), (.long pm)] below meth c s₁ [] 0 0 := Stand.of_body Bd
  have e0 : s₁.heap = h0 := by rw [← hh, Bd.state]; rfl
  have N0 := Fr.nil n0
  have pre0 : ∀ t, Steps p.tables e below (s₁.setTop (mkF m 0 #[.val (.long pa), .second, .val (.int pp), .val (.int pq), .val (.int pc), .val (.int pd), .val (.long pm), .second, .unset, .unset, .unset, .unset, .unset, .unset, .unset, .unset, .unset, .unset, .unset, .unset, .unset, .unset, .unset, .unset, .unset] [])) t → Steps p.tables e below (s₁.setTop (entryFrame m #[(.long pa), (.int pp), (.int pq), (.int pc), (.int pd), (.long pm)] maxLocals)) t := fun t k => castTop (ef_lf m pa pp pq pc pd pm) k
  obtain ⟨T3, h3, L3, pw_3, kp_3, X3, e3, Nn3, Z3, g3_0, g3_1, g3_2, st3⟩ := seg_A (.val (.long pa) : Slot) (.second : Slot) (.val (.int pp) : Slot) (.val (.int pq) : Slot) (.val (.int pc) : Slot) (.val (.int pd) : Slot) (.val (.long pm) : Slot) (.second : Slot) (.val (.int (lf_near pa pp pq pc pd pm)) : Slot) (.val (.long (lf_delta pa pp pq pc pd pm)) : Slot) (.second : Slot) hx hZ hw hby hml hown  k0_ X0 e0 N0 Z0
  obtain ⟨T4, h4, L4, tc_4, kt_4, X4, e4, Nn4, Z4, g4_0, g4_1, g4_2, g4_3, g4_4, st4⟩ := seg_B pa pp pd pw_3 kp_3 (.val (.int pq) : Slot) (.val (.int pc) : Slot) (.val (.long pm) : Slot) (.second : Slot) (.val (.int (lf_near pa pp pq pc pd pm)) : Slot) (.val (.long (lf_delta pa pp pq pc pd pm)) : Slot) (.second : Slot) hx hZ hw hby hml hown  g3_0 g3_1 X3 e3 Nn3 Z3
  obtain ⟨T5, h5, L5, X5, e5, Nn5, Z5, g5_0, g5_1, g5_2, st5⟩ := seg_C pq pc (sb_n pa pp pd) (sb_top pa pp pd) pw_3 tc_4 kp_3 kt_4 (own_ts (sb_v pa pp pd) (sb_top pa pp pd) (sb_n pa pp pd)) (.val (.long pa) : Slot) (.second : Slot) (.val (.int pp) : Slot) (.val (.int pd) : Slot) (.val (.long pm) : Slot) (.second : Slot) (.val (.int (lf_near pa pp pq pc pd pm)) : Slot) (.val (.long (lf_delta pa pp pq pc pd pm)) : Slot) (.second : Slot) (.val (.long (sb_v pa pp pd)) : Slot) (.second : Slot) hx hZ hw hby hml hown rfl g4_0 g4_1 g4_2 g4_3 g4_4 X4 e4 Nn4 Z4
  obtain ⟨c6, A6, q6, S6, M6, H6, U6⟩ := id g5_1
  obtain ⟨T16, h16, X16, e16, E16, A16, D16, -, st16⟩ := newO X5 hx hZ hown (hw _ (List.mem_of_getElem? (i := 28) rfl)) (hw _ (List.mem_of_getElem? (i := 29) rfl)) (hw _ (List.mem_of_getElem? (i := 30) rfl)) e5 (g := (mkF m 808 #[.val (.long pa), .second, .val (.int pp), .val (.int pq), .val (.int pc), .val (.int pd), .val (.long pm), .second, .val (.int (lf_near pa pp pq pc pd pm)), .val (.long (lf_delta pa pp pq pc pd pm)), .second, .val (.ref pw_3), .val (.long (sb_v pa pp pd)), .second, .val (.int (sb_n pa pp pd)), .val (.int (sb_top pa pp pd)), .val (.ref tc_4), .val (.int (own_bad pq)), .val (.int (own_big (sb_n pa pp pd) (sb_top pa pp pd))), .val (.long (lf_val pa pp pq pc pd pm)), .second, .val (.long (lf_max pa pp pq pc pd pm)), .second, .val (.long (lf_exp pa pp pq pc pd pm)), .second] [])) rfl (hb hby at_808) (by decide) (by decide)
  obtain ⟨ad16, g16⟩ : ∃ z, z = (h5).size := ⟨_, rfl⟩
  rw [← g16] at A16 D16 st16
  have ne_pw_3_ad16 : pw_3 ≠ ad16 := Nat.ne_of_lt (Nat.lt_of_lt_of_le (g5_1.lt) (Nat.le_of_eq g16.symm))
  have ne_tc_4_ad16 : tc_4 ≠ ad16 := Nat.ne_of_lt (Nat.lt_of_lt_of_le (g5_2.lt) (Nat.le_of_eq g16.symm))
  have q17 : Old Z n0 h16 := (g5_0.ext E16)
  have q18 : Arv Z h16 pw_3 kp_3 .long (19 : Int32) own_pwv (.long (0 : Int64)) := (g5_1.ext E16)
  have q19 : Arv Z h16 tc_4 kt_4 .char (20 : Int32) ((own_cs pq pc (own_ts (sb_v pa pp pd) (sb_top pa pp pd) (sb_n pa pp pd))).map Value.int) (.int (0 : Int32)) := (g5_2.ext E16)
  have F16_0 : Fld Z h16 ad16 "java/lang/String" "coder" "B" (.int (0 : Int32)) := (D16 (Or.inr (hw _ (List.mem_of_getElem? (i := 54) rfl))) (ty := .byte) (by decide))
  have F16_1 : Fld Z h16 ad16 "java/lang/String" "value" "[B" .null := (D16 (Or.inr (hw _ (List.mem_of_getElem? (i := 56) rfl))) (ty := (.array .byte)) (by decide))
  have Z16 : n0 ≤ h16.size := Nat.le_trans Z5 E16.1
  have gn16 : n0 ≤ ad16 := Nat.le_trans Z5 (Nat.le_of_eq g16.symm)
  have hws : ∀ d ∈ StrChars.Road.words, d.before a0 Z = true := fun d hd => hw d ((by decide +kernel : ∀ d ∈ StrChars.Road.words, d ∈ tables_1) d hd)
  obtain ⟨_, _, ⟨T20, L20, k20, n20⟩, -, X20, ⟨Lc20, hQ20, l20, y20, z20⟩, st20⟩ := X16.specialBack hx (y := (⟨"java/lang/String", "<init>", "([C)V"⟩ : MethodName)) rfl hown (mvT hZ (hw _ (List.mem_of_getElem? (i := 31) rfl))) (mvT hZ (hw _ (List.mem_of_getElem? (i := 32) rfl))) (mvT hZ (hw _ (List.mem_of_getElem? (i := 33) rfl))) (by decide) (StrChars.Road.backV (W := 1) hZ hws (kI := 4) (hw _ (List.mem_of_getElem? (i := 29) rfl)) (cs := (own_cs pq pc (own_ts (sb_v pa pp pd) (sb_top pa pp pd) (sb_n pa pp pd)))) (bs := (own_cs pq pc (own_ts (sb_v pa pp pd) (sb_top pa pp pd) (sb_n pa pp pd))).map (fun c => c.toInt8.toInt32)) (n := 20) gn16 Z16 A16 F16_1 F16_0 q19 (O2.ext q17.2) hz (own_lenF pa pp pq pc pd) rfl (by decide) (by decide) (own_hpF pa pp pq pc pd) rfl (by decide) (by decide)) (g := (mkF m 814 #[.val (.long pa), .second, .val (.int pp), .val (.int pq), .val (.int pc), .val (.int pd), .val (.long pm), .second, .val (.int (lf_near pa pp pq pc pd pm)), .val (.long (lf_delta pa pp pq pc pd pm)), .second, .val (.ref pw_3), .val (.long (sb_v pa pp pd)), .second, .val (.int (sb_n pa pp pd)), .val (.int (sb_top pa pp pd)), .val (.ref tc_4), .val (.int (own_bad pq)), .val (.int (own_big (sb_n pa pp pd) (sb_top pa pp pd))), .val (.long (lf_val pa pp pq pc pd pm)), .second, .val (.long (lf_max pa pp pq pc pd pm)), .second, .val (.long (lf_exp pa pp pq pc pd pm)), .second] [(.ref tc_4), (.ref ad16), (.ref ad16)])) rfl (by rw [hml]; rfl) (Steps.refl _) (a := ad16) (argsL := [(.ref tc_4)]) (rest := [(.ref ad16)]) (lenOf pd_6 rfl) rfl (by show 2 * 0 + _ ≤ _; exact Nat.le_of_eq rfl) (hb hby at_814) (fun _ _ => ⟨rfl, e16, (by decide : 3 + 1 ≤ _), (by decide : 43 + 20 ≤ _)⟩)
  dsimp only [Pt.U, Pt.locs, Pt.cells, Pt.slots] at X20 l20 y20 z20 st20 hQ20
  rw [l20, y20, z20] at X20
  obtain ⟨vq20, N20, K20, g20e, g20c, tb20, kb20, u20, v20, w20, g20v, g20a⟩ := hQ20
  rw [vq20] at st20
  have Nn20 := Fr.app Nn5 N20
  have O20 : Old Z n0 T20.heap := q17.keep K20 (allS gn16 all0)
  have Z20 : n0 ≤ T20.heap.size := Nat.le_trans Z16 K20.1
  obtain ⟨_, _, ⟨T21, L21, k21, n21⟩, -, X21, ⟨Lc21, hQ21, l21, y21, z21⟩, st21⟩ := Jvm.LawKit.callS X20 hx (y := (⟨"com/example/kontrakt/kontrakt/input/Numerals", "count", "(Ljava/lang/String;J)J"⟩ : MethodName)) hown (mvT hZ (hw _ (List.mem_of_getElem? (i := 57) rfl))) (mvT hZ (hw _ (List.mem_of_getElem? (i := 58) rfl))) (mvT hZ (hw _ (List.mem_of_getElem? (i := 59) rfl))) (mvT hZ (hw _ (List.mem_of_getElem? (i := 60) rfl))) (by decide) (backOf (W := 0) (rm_cnt l Z a0 hw [] ad16 (lf_max pa pp pq pc pd pm) tb20 kb20 (own_cs pq pc (own_ts (sb_v pa pp pd) (sb_top pa pp pd) (sb_n pa pp pd))) (20 : Int32) G1 G3 (T20.heap) n0 Z20  g20e g20v g20c g20a (StrChars.Road.codOf (n := 20) (own_lenF pa pp pq pc pd) (fun c hc => ((own_hpF pa pp pq pc pd) c hc).2)) (own_up _ (own_hpF pa pp pq pc pd)) (O2.ext O20.2) hz (O4.ext O20.2) rf (by rw [(own_lenF pa pp pq pc pd)]; decide) (by rw [(own_lenF pa pp pq pc pd)]; decide)) hZ (hw _ (List.mem_of_getElem? (i := 60) rfl)) (hw _ (List.mem_of_getElem? (i := 59) rfl)) (by decide) (by decide)) (g := (mkF m 819 #[.val (.long pa), .second, .val (.int pp), .val (.int pq), .val (.int pc), .val (.int pd), .val (.long pm), .second, .val (.int (lf_near pa pp pq pc pd pm)), .val (.long (lf_delta pa pp pq pc pd pm)), .second, .val (.ref pw_3), .val (.long (sb_v pa pp pd)), .second, .val (.int (sb_n pa pp pd)), .val (.int (sb_top pa pp pd)), .val (.ref tc_4), .val (.int (own_bad pq)), .val (.int (own_big (sb_n pa pp pd) (sb_top pa pp pd))), .val (.long (lf_val pa pp pq pc pd pm)), .second, .val (.long (lf_max pa pp pq pc pd pm)), .second, .val (.long (lf_exp pa pp pq pc pd pm)), .second] [(.long (lf_max pa pp pq pc pd pm)), (.ref ad16)])) rfl (by rw [hml]; rfl) (argsL := [(.ref ad16), (.long (lf_max pa pp pq pc pd pm))]) (rest := []) (lenOf pd_7 rfl) rfl (by show 2 * 0 + _ ≤ _; exact Nat.le_of_eq rfl) (hb hby at_819) (fun _ _ => ⟨rfl, rfl, (by decide : 4 + 0 ≤ _), (by decide : 63 + 0 ≤ _)⟩)
  dsimp only [Pt.U, Pt.locs, Pt.cells, Pt.slots] at X21 l21 y21 z21 st21 hQ21
  rw [l21, y21, z21] at X21
  replace X21 : Stand _ _ _ _ _ _ _ _ _ _ _ _ 4 63 := X21
  obtain ⟨vq21, N21, e21⟩ := hQ21
  rw [vq21] at st21
  have Nn21 := Fr.app Nn20 N21
  obtain ⟨fs, hr, hrun, hended, hW, hsame⟩ := X21.leave (v := some (.int (1 : Int32))) (fun h => by rw [Bd.returns] at h; cases h)
  refine ⟨_, _, pre0 _ ?_, hrun, hended, _, _, rfl, ?_, ⟨_, rfl⟩, hW, hsame.mono (Nat.le_of_ble_eq_true rfl) (Nat.le_of_ble_eq_true rfl)⟩
  · show Steps p.tables e below (s₁.setTop (mkF m 0 #[.val (.long pa), .second, .val (.int pp), .val (.int pq), .val (.int pc), .val (.int pd), .val (.long pm), .second, .unset, .unset, .unset, .unset, .unset, .unset, .unset, .unset, .unset, .unset, .unset, .unset, .unset, .unset, .unset, .unset, .unset] [])) _
    refine XS.iloadN X0.here hx rfl (hb hby at_0) rfl ?_
    show Steps p.tables e below (s₁.setTop (mkF m 1 #[.val (.long pa), .second, .val (.int pp), .val (.int pq), .val (.int pc), .val (.int pd), .val (.long pm), .second, .unset, .unset, .unset, .unset, .unset, .unset, .unset, .unset, .unset, .unset, .unset, .unset, .unset, .unset, .unset, .unset, .unset] [(.int pq)])) _
    refine XS.iconst X0.here hx rfl (hb hby at_1) ?_
    show Steps p.tables e below (s₁.setTop (mkF m 2 #[.val (.long pa), .second, .val (.int pp), .val (.int pq), .val (.int pc), .val (.int pd), .val (.long pm), .second, .unset, .unset, .unset, .unset, .unset, .unset, .unset, .unset, .unset, .unset, .unset, .unset, .unset, .unset, .unset, .unset, .unset] [(.int (2 : Int32)), (.int pq)])) _
    refine XS.iand X0.here hx rfl (hb hby at_2) rfl ?_
    show Steps p.tables e below (s₁.setTop (mkF m 3 #[.val (.long pa), .second, .val (.int pp), .val (.int pq), .val (.int pc), .val (.int pd), .val (.long pm), .second, .unset, .unset, .unset, .unset, .unset, .unset, .unset, .unset, .unset, .unset, .unset, .unset, .unset, .unset, .unset, .unset, .unset] [(.int (pq &&& (2 : Int32)))])) _
    have sg1 : ∀ t, Steps p.tables e below (s₁.setTop (mkF m 11 #[.val (.long pa), .second, .val (.int pp), .val (.int pq), .val (.int pc), .val (.int pd), .val (.long pm), .second, .unset, .unset, .unset, .unset, .unset, .unset, .unset, .unset, .unset, .unset, .unset, .unset, .unset, .unset, .unset, .unset, .unset] [(.int (lf_near pa pp pq pc pd pm))])) t → Steps p.tables e below (s₁.setTop (mkF m 3 #[.val (.long pa), .second, .val (.int pp), .val (.int pq), .val (.int pc), .val (.int pd), .val (.long pm), .second, .unset, .unset, .unset, .unset, .unset, .unset, .unset, .unset, .unset, .unset, .unset, .unset, .unset, .unset, .unset, .unset, .unset] [(.int (pq &&& (2 : Int32)))])) t := by
      intro t k
      by_cases c2 : (ifCond.holds .eq (pq &&& (2 : Int32))) = true
      · refine XS.ifYes X0.here hx rfl (pc0 := 3) (pc' := 10) rfl (hb hby at_3) rfl c2 (by decide) (by decide) ?_
        show Steps p.tables e below (s₁.setTop (mkF m 10 #[.val (.long pa), .second, .val (.int pp), .val (.int pq), .val (.int pc), .val (.int pd), .val (.long pm), .second, .unset, .unset, .unset, .unset, .unset, .unset, .unset, .unset, .unset, .unset, .unset, .unset, .unset, .unset, .unset, .unset, .unset] [])) t
        refine XS.iconst X0.here hx rfl (hb hby at_10) ?_
        show Steps p.tables e below (s₁.setTop (mkF m 11 #[.val (.long pa), .second, .val (.int pp), .val (.int pq), .val (.int pc), .val (.int pd), .val (.long pm), .second, .unset, .unset, .unset, .unset, .unset, .unset, .unset, .unset, .unset, .unset, .unset, .unset, .unset, .unset, .unset, .unset, .unset] [(.int (0 : Int32))])) t
        have q : (lf_near pa pp pq pc pd pm) = (0 : Int32) := by simp only [lf_near, c2, if_true, if_false, Bool.false_eq_true]; try rfl
        rw [q] at k
        clear q
        exact k
      · refine XS.ifNo X0.here hx rfl (hb hby at_3) rfl (Bool.eq_false_iff.mpr c2) ?_
        show Steps p.tables e below (s₁.setTop (mkF m 6 #[.val (.long pa), .second, .val (.int pp), .val (.int pq), .val (.int pc), .val (.int pd), .val (.long pm), .second, .unset, .unset, .unset, .unset, .unset, .unset, .unset, .unset, .unset, .unset, .unset, .unset, .unset, .unset, .unset, .unset, .unset] [])) t
        refine XS.iconst X0.here hx rfl (hb hby at_6) ?_
        show Steps p.tables e below (s₁.setTop (mkF m 7 #[.val (.long pa), .second, .val (.int pp), .val (.int pq), .val (.int pc), .val (.int pd), .val (.long pm), .second, .unset, .unset, .unset, .unset, .unset, .unset, .unset, .unset, .unset, .unset, .unset, .unset, .unset, .unset, .unset, .unset, .unset] [(.int (1 : Int32))])) t
        refine XS.goto X0.here hx rfl (pc0 := 7) (pc' := 11) rfl (hb hby at_7) (by decide) (by decide) ?_
        show Steps p.tables e below (s₁.setTop (mkF m 11 #[.val (.long pa), .second, .val (.int pp), .val (.int pq), .val (.int pc), .val (.int pd), .val (.long pm), .second, .unset, .unset, .unset, .unset, .unset, .unset, .unset, .unset, .unset, .unset, .unset, .unset, .unset, .unset, .unset, .unset, .unset] [(.int (1 : Int32))])) t
        have q : (lf_near pa pp pq pc pd pm) = (1 : Int32) := by simp only [lf_near, c2, if_true, if_false, Bool.false_eq_true]; try rfl
        rw [q] at k
        clear q
        exact k
    refine sg1 _ ?_
    show Steps p.tables e below (s₁.setTop (mkF m 11 #[.val (.long pa), .second, .val (.int pp), .val (.int pq), .val (.int pc), .val (.int pd), .val (.long pm), .second, .unset, .unset, .unset, .unset, .unset, .unset, .unset, .unset, .unset, .unset, .unset, .unset, .unset, .unset, .unset, .unset, .unset] [(.int (lf_near pa pp pq pc pd pm))])) _
    refine XS.istore X0.here hx rfl (hb hby at_11) rfl (l' := #[.val (.long pa), .second, .val (.int pp), .val (.int pq), .val (.int pc), .val (.int pd), .val (.long pm), .second, .val (.int (lf_near pa pp pq pc pd pm)), .unset, .unset, .unset, .unset, .unset, .unset, .unset, .unset, .unset, .unset, .unset, .unset, .unset, .unset, .unset, .unset]) rfl ?_
    show Steps p.tables e below (s₁.setTop (mkF m 13 #[.val (.long pa), .second, .val (.int pp), .val (.int pq), .val (.int pc), .val (.int pd), .val (.long pm), .second, .val (.int (lf_near pa pp pq pc pd pm)), .unset, .unset, .unset, .unset, .unset, .unset, .unset, .unset, .unset, .unset, .unset, .unset, .unset, .unset, .unset, .unset] [])) _
    refine XT.lload X0.here hx rfl (hb hby at_13) rfl ?_
    show Steps p.tables e below (s₁.setTop (mkF m 15 #[.val (.long pa), .second, .val (.int pp), .val (.int pq), .val (.int pc), .val (.int pd), .val (.long pm), .second, .val (.int (lf_near pa pp pq pc pd pm)), .unset, .unset, .unset, .unset, .unset, .unset, .unset, .unset, .unset, .unset, .unset, .unset, .unset, .unset, .unset, .unset] [(.long pm)])) _
    refine X0.ldc2J hx hown (mvT hZ (hw _ (List.mem_of_getElem? (i := 0) rfl))) (g := (mkF m 15 #[.val (.long pa), .second, .val (.int pp), .val (.int pq), .val (.int pc), .val (.int pd), .val (.long pm), .second, .val (.int (lf_near pa pp pq pc pd pm)), .unset, .unset, .unset, .unset, .unset, .unset, .unset, .unset, .unset, .unset, .unset, .unset, .unset, .unset, .unset, .unset] [(.long pm)])) rfl (hb hby at_15) ?_
    show Steps p.tables e below (s₁.setTop (mkF m 18 #[.val (.long pa), .second, .val (.int pp), .val (.int pq), .val (.int pc), .val (.int pd), .val (.long pm), .second, .val (.int (lf_near pa pp pq pc pd pm)), .unset, .unset, .unset, .unset, .unset, .unset, .unset, .unset, .unset, .unset, .unset, .unset, .unset, .unset, .unset, .unset] [(.long (3 : Int64)), (.long pm)])) _
    refine XT.land X0.here hx rfl (hb hby at_18) rfl ?_
    show Steps p.tables e below (s₁.setTop (mkF m 19 #[.val (.long pa), .second, .val (.int pp), .val (.int pq), .val (.int pc), .val (.int pd), .val (.long pm), .second, .val (.int (lf_near pa pp pq pc pd pm)), .unset, .unset, .unset, .unset, .unset, .unset, .unset, .unset, .unset, .unset, .unset, .unset, .unset, .unset, .unset, .unset] [(.long (pm &&& (3 : Int64)))])) _
    refine XT.l2i X0.here hx rfl (hb hby at_19) rfl ?_
    show Steps p.tables e below (s₁.setTop (mkF m 20 #[.val (.long pa), .second, .val (.int pp), .val (.int pq), .val (.int pc), .val (.int pd), .val (.long pm), .second, .val (.int (lf_near pa pp pq pc pd pm)), .unset, .unset, .unset, .unset, .unset, .unset, .unset, .unset, .unset, .unset, .unset, .unset, .unset, .unset, .unset, .unset] [(.int (Int64.toInt32 (pm &&& (3 : Int64))))])) _
    refine XT.i2l X0.here hx rfl (hb hby at_20) rfl ?_
    show Steps p.tables e below (s₁.setTop (mkF m 21 #[.val (.long pa), .second, .val (.int pp), .val (.int pq), .val (.int pc), .val (.int pd), .val (.long pm), .second, .val (.int (lf_near pa pp pq pc pd pm)), .unset, .unset, .unset, .unset, .unset, .unset, .unset, .unset, .unset, .unset, .unset, .unset, .unset, .unset, .unset, .unset] [(.long (Int32.toInt64 (Int64.toInt32 (pm &&& (3 : Int64)))))])) _
    refine X0.ldc2J hx hown (mvT hZ (hw _ (List.mem_of_getElem? (i := 1) rfl))) (g := (mkF m 21 #[.val (.long pa), .second, .val (.int pp), .val (.int pq), .val (.int pc), .val (.int pd), .val (.long pm), .second, .val (.int (lf_near pa pp pq pc pd pm)), .unset, .unset, .unset, .unset, .unset, .unset, .unset, .unset, .unset, .unset, .unset, .unset, .unset, .unset, .unset, .unset] [(.long (Int32.toInt64 (Int64.toInt32 (pm &&& (3 : Int64)))))])) rfl (hb hby at_21) ?_
    show Steps p.tables e below (s₁.setTop (mkF m 24 #[.val (.long pa), .second, .val (.int pp), .val (.int pq), .val (.int pc), .val (.int pd), .val (.long pm), .second, .val (.int (lf_near pa pp pq pc pd pm)), .unset, .unset, .unset, .unset, .unset, .unset, .unset, .unset, .unset, .unset, .unset, .unset, .unset, .unset, .unset, .unset] [(.long (2 : Int64)), (.long (Int32.toInt64 (Int64.toInt32 (pm &&& (3 : Int64)))))])) _
    refine XT.lsub X0.here hx rfl (hb hby at_24) rfl ?_
    show Steps p.tables e below (s₁.setTop (mkF m 25 #[.val (.long pa), .second, .val (.int pp), .val (.int pq), .val (.int pc), .val (.int pd), .val (.long pm), .second, .val (.int (lf_near pa pp pq pc pd pm)), .unset, .unset, .unset, .unset, .unset, .unset, .unset, .unset, .unset, .unset, .unset, .unset, .unset, .unset, .unset, .unset] [(.long ((Int32.toInt64 (Int64.toInt32 (pm &&& (3 : Int64)))) - (2 : Int64)))])) _
    refine XT.lstore X0.here hx rfl (hb hby at_25) rfl (l' := #[.val (.long pa), .second, .val (.int pp), .val (.int pq), .val (.int pc), .val (.int pd), .val (.long pm), .second, .val (.int (lf_near pa pp pq pc pd pm)), .val (.long (lf_delta pa pp pq pc pd pm)), .second, .unset, .unset, .unset, .unset, .unset, .unset, .unset, .unset, .unset, .unset, .unset, .unset, .unset, .unset]) rfl ?_
    show Steps p.tables e below (s₁.setTop (mkF m 27 #[.val (.long pa), .second, .val (.int pp), .val (.int pq), .val (.int pc), .val (.int pd), .val (.long pm), .second, .val (.int (lf_near pa pp pq pc pd pm)), .val (.long (lf_delta pa pp pq pc pd pm)), .second, .unset, .unset, .unset, .unset, .unset, .unset, .unset, .unset, .unset, .unset, .unset, .unset, .unset, .unset] [])) _
    refine XS.iloadN X0.here hx rfl (hb hby at_27) rfl ?_
    show Steps p.tables e below (s₁.setTop (mkF m 28 #[.val (.long pa), .second, .val (.int pp), .val (.int pq), .val (.int pc), .val (.int pd), .val (.long pm), .second, .val (.int (lf_near pa pp pq pc pd pm)), .val (.long (lf_delta pa pp pq pc pd pm)), .second, .unset, .unset, .unset, .unset, .unset, .unset, .unset, .unset, .unset, .unset, .unset, .unset, .unset, .unset] [(.int pq)])) _
    refine XS.iconst X0.here hx rfl (hb hby at_28) ?_
    show Steps p.tables e below (s₁.setTop (mkF m 29 #[.val (.long pa), .second, .val (.int pp), .val (.int pq), .val (.int pc), .val (.int pd), .val (.long pm), .second, .val (.int (lf_near pa pp pq pc pd pm)), .val (.long (lf_delta pa pp pq pc pd pm)), .second, .unset, .unset, .unset, .unset, .unset, .unset, .unset, .unset, .unset, .unset, .unset, .unset, .unset, .unset] [(.int (4 : Int32)), (.int pq)])) _
    refine XS.iand X0.here hx rfl (hb hby at_29) rfl ?_
    show Steps p.tables e below (s₁.setTop (mkF m 30 #[.val (.long pa), .second, .val (.int pp), .val (.int pq), .val (.int pc), .val (.int pd), .val (.long pm), .second, .val (.int (lf_near pa pp pq pc pd pm)), .val (.long (lf_delta pa pp pq pc pd pm)), .second, .unset, .unset, .unset, .unset, .unset, .unset, .unset, .unset, .unset, .unset, .unset, .unset, .unset, .unset] [(.int (pq &&& (4 : Int32)))])) _
    refine XS.ifYes X0.here hx rfl (pc0 := 30) (pc' := 147) rfl (hb hby at_30) rfl hq4 (by decide) (by decide) ?_
    show Steps p.tables e below (s₁.setTop (mkF m 147 #[.val (.long pa), .second, .val (.int pp), .val (.int pq), .val (.int pc), .val (.int pd), .val (.long pm), .second, .val (.int (lf_near pa pp pq pc pd pm)), .val (.long (lf_delta pa pp pq pc pd pm)), .second, .unset, .unset, .unset, .unset, .unset, .unset, .unset, .unset, .unset, .unset, .unset, .unset, .unset, .unset] [])) _
    refine st3 _ ?_
    show Steps p.tables e below (T3.setTop (mkF m 278 #[.val (.long pa), .second, .val (.int pp), .val (.int pq), .val (.int pc), .val (.int pd), .val (.long pm), .second, .val (.int (lf_near pa pp pq pc pd pm)), .val (.long (lf_delta pa pp pq pc pd pm)), .second, .val (.ref pw_3), .unset, .unset, .unset, .unset, .unset, .unset, .unset, .unset, .unset, .unset, .unset, .unset, .unset] [])) _
    refine st4 _ ?_
    show Steps p.tables e below (T4.setTop (mkF m 658 #[.val (.long pa), .second, .val (.int pp), .val (.int pq), .val (.int pc), .val (.int pd), .val (.long pm), .second, .val (.int (lf_near pa pp pq pc pd pm)), .val (.long (lf_delta pa pp pq pc pd pm)), .second, .val (.ref pw_3), .val (.long (sb_v pa pp pd)), .second, .val (.int (sb_n pa pp pd)), .val (.int (sb_top pa pp pd)), .val (.ref tc_4), .unset, .unset, .unset, .unset, .unset, .unset, .unset, .unset] [])) _
    refine st5 _ ?_
    show Steps p.tables e below (T5.setTop (mkF m 736 #[.val (.long pa), .second, .val (.int pp), .val (.int pq), .val (.int pc), .val (.int pd), .val (.long pm), .second, .val (.int (lf_near pa pp pq pc pd pm)), .val (.long (lf_delta pa pp pq pc pd pm)), .second, .val (.ref pw_3), .val (.long (sb_v pa pp pd)), .second, .val (.int (sb_n pa pp pd)), .val (.int (sb_top pa pp pd)), .val (.ref tc_4), .val (.int (own_bad pq)), .val (.int (own_big (sb_n pa pp pd) (sb_top pa pp pd))), .unset, .unset, .unset, .unset, .unset, .unset] [])) _
    refine XS.iload X5.here hx rfl (hb hby at_736) rfl ?_
    show Steps p.tables e below (T5.setTop (mkF m 738 #[.val (.long pa), .second, .val (.int pp), .val (.int pq), .val (.int pc), .val (.int pd), .val (.long pm), .second, .val (.int (lf_near pa pp pq pc pd pm)), .val (.long (lf_delta pa pp pq pc pd pm)), .second, .val (.ref pw_3), .val (.long (sb_v pa pp pd)), .second, .val (.int (sb_n pa pp pd)), .val (.int (sb_top pa pp pd)), .val (.ref tc_4), .val (.int (own_bad pq)), .val (.int (own_big (sb_n pa pp pd) (sb_top pa pp pd))), .unset, .unset, .unset, .unset, .unset, .unset] [(.int (sb_n pa pp pd))])) _
    refine XS.bipush X5.here hx rfl (hb hby at_738) ?_
    show Steps p.tables e below (T5.setTop (mkF m 740 #[.val (.long pa), .second, .val (.int pp), .val (.int pq), .val (.int pc), .val (.int pd), .val (.long pm), .second, .val (.int (lf_near pa pp pq pc pd pm)), .val (.long (lf_delta pa pp pq pc pd pm)), .second, .val (.ref pw_3), .val (.long (sb_v pa pp pd)), .second, .val (.int (sb_n pa pp pd)), .val (.int (sb_top pa pp pd)), .val (.ref tc_4), .val (.int (own_bad pq)), .val (.int (own_big (sb_n pa pp pd) (sb_top pa pp pd))), .unset, .unset, .unset, .unset, .unset, .unset] [(.int (19 : Int32)), (.int (sb_n pa pp pd))])) _
    have sg7 : ∀ t, Steps p.tables e below (T5.setTop (mkF m 756 #[.val (.long pa), .second, .val (.int pp), .val (.int pq), .val (.int pc), .val (.int pd), .val (.long pm), .second, .val (.int (lf_near pa pp pq pc pd pm)), .val (.long (lf_delta pa pp pq pc pd pm)), .second, .val (.ref pw_3), .val (.long (sb_v pa pp pd)), .second, .val (.int (sb_n pa pp pd)), .val (.int (sb_top pa pp pd)), .val (.ref tc_4), .val (.int (own_bad pq)), .val (.int (own_big (sb_n pa pp pd) (sb_top pa pp pd))), .unset, .unset, .unset, .unset, .unset, .unset] [(.long (lf_val pa pp pq pc pd pm))])) t → Steps p.tables e below (T5.setTop (mkF m 740 #[.val (.long pa), .second, .val (.int pp), .val (.int pq), .val (.int pc), .val (.int pd), .val (.long pm), .second, .val (.int (lf_near pa pp pq pc pd pm)), .val (.long (lf_delta pa pp pq pc pd pm)), .second, .val (.ref pw_3), .val (.long (sb_v pa pp pd)), .second, .val (.int (sb_n pa pp pd)), .val (.int (sb_top pa pp pd)), .val (.ref tc_4), .val (.int (own_bad pq)), .val (.int (own_big (sb_n pa pp pd) (sb_top pa pp pd))), .unset, .unset, .unset, .unset, .unset, .unset] [(.int (19 : Int32)), (.int (sb_n pa pp pd))])) t := by
      intro t k
      by_cases c8 : (if_icmp.holds .lt (sb_n pa pp pd) (19 : Int32)) = true
      · refine XS.icmpYes X5.here hx rfl (pc0 := 740) (pc' := 748) rfl (hb hby at_740) rfl c8 (by decide) (by decide) ?_
        show Steps p.tables e below (T5.setTop (mkF m 748 #[.val (.long pa), .second, .val (.int pp), .val (.int pq), .val (.int pc), .val (.int pd), .val (.long pm), .second, .val (.int (lf_near pa pp pq pc pd pm)), .val (.long (lf_delta pa pp pq pc pd pm)), .second, .val (.ref pw_3), .val (.long (sb_v pa pp pd)), .second, .val (.int (sb_n pa pp pd)), .val (.int (sb_top pa pp pd)), .val (.ref tc_4), .val (.int (own_bad pq)), .val (.int (own_big (sb_n pa pp pd) (sb_top pa pp pd))), .unset, .unset, .unset, .unset, .unset, .unset] [])) t
        refine XT.lload X5.here hx rfl (hb hby at_748) rfl ?_
        show Steps p.tables e below (T5.setTop (mkF m 750 #[.val (.long pa), .second, .val (.int pp), .val (.int pq), .val (.int pc), .val (.int pd), .val (.long pm), .second, .val (.int (lf_near pa pp pq pc pd pm)), .val (.long (lf_delta pa pp pq pc pd pm)), .second, .val (.ref pw_3), .val (.long (sb_v pa pp pd)), .second, .val (.int (sb_n pa pp pd)), .val (.int (sb_top pa pp pd)), .val (.ref tc_4), .val (.int (own_bad pq)), .val (.int (own_big (sb_n pa pp pd) (sb_top pa pp pd))), .unset, .unset, .unset, .unset, .unset, .unset] [(.long (sb_v pa pp pd))])) t
        refine XS.aload X5.here hx rfl (hb hby at_750) rfl rfl ?_
        show Steps p.tables e below (T5.setTop (mkF m 752 #[.val (.long pa), .second, .val (.int pp), .val (.int pq), .val (.int pc), .val (.int pd), .val (.long pm), .second, .val (.int (lf_near pa pp pq pc pd pm)), .val (.long (lf_delta pa pp pq pc pd pm)), .second, .val (.ref pw_3), .val (.long (sb_v pa pp pd)), .second, .val (.int (sb_n pa pp pd)), .val (.int (sb_top pa pp pd)), .val (.ref tc_4), .val (.int (own_bad pq)), .val (.int (own_big (sb_n pa pp pd) (sb_top pa pp pd))), .unset, .unset, .unset, .unset, .unset, .unset] [(.ref pw_3), (.long (sb_v pa pp pd))])) t
        refine XS.iload X5.here hx rfl (hb hby at_752) rfl ?_
        show Steps p.tables e below (T5.setTop (mkF m 754 #[.val (.long pa), .second, .val (.int pp), .val (.int pq), .val (.int pc), .val (.int pd), .val (.long pm), .second, .val (.int (lf_near pa pp pq pc pd pm)), .val (.long (lf_delta pa pp pq pc pd pm)), .second, .val (.ref pw_3), .val (.long (sb_v pa pp pd)), .second, .val (.int (sb_n pa pp pd)), .val (.int (sb_top pa pp pd)), .val (.ref tc_4), .val (.int (own_bad pq)), .val (.int (own_big (sb_n pa pp pd) (sb_top pa pp pd))), .unset, .unset, .unset, .unset, .unset, .unset] [(.int (sb_n pa pp pd)), (.ref pw_3), (.long (sb_v pa pp pd))])) t
        refine X5.laload hx (j := (sb_n pa pp pd)) (v := (.long (own_pj (sb_n pa pp pd)))) (by rw [e5]; exact A6.1) (State.isArrayOf_alike hZ.alike A6.2.1) A6.2.2 (inb_of S6 (own_n19 pa pp pd (by assumption))) (H6.at (inb_of S6 (own_n19 pa pp pd (by assumption))) (own_pat _)) (g := (mkF m 754 #[.val (.long pa), .second, .val (.int pp), .val (.int pq), .val (.int pc), .val (.int pd), .val (.long pm), .second, .val (.int (lf_near pa pp pq pc pd pm)), .val (.long (lf_delta pa pp pq pc pd pm)), .second, .val (.ref pw_3), .val (.long (sb_v pa pp pd)), .second, .val (.int (sb_n pa pp pd)), .val (.int (sb_top pa pp pd)), .val (.ref tc_4), .val (.int (own_bad pq)), .val (.int (own_big (sb_n pa pp pd) (sb_top pa pp pd))), .unset, .unset, .unset, .unset, .unset, .unset] [(.int (sb_n pa pp pd)), (.ref pw_3), (.long (sb_v pa pp pd))])) rfl rfl (hb hby at_754) _ ?_
        show Steps p.tables e below (T5.setTop (mkF m 755 #[.val (.long pa), .second, .val (.int pp), .val (.int pq), .val (.int pc), .val (.int pd), .val (.long pm), .second, .val (.int (lf_near pa pp pq pc pd pm)), .val (.long (lf_delta pa pp pq pc pd pm)), .second, .val (.ref pw_3), .val (.long (sb_v pa pp pd)), .second, .val (.int (sb_n pa pp pd)), .val (.int (sb_top pa pp pd)), .val (.ref tc_4), .val (.int (own_bad pq)), .val (.int (own_big (sb_n pa pp pd) (sb_top pa pp pd))), .unset, .unset, .unset, .unset, .unset, .unset] [(.long (own_pj (sb_n pa pp pd))), (.long (sb_v pa pp pd))])) t
        refine XT.lrem X5.here hx rfl (hb hby at_755) rfl (own_pj_ne (own_n19 pa pp pd (by assumption))) ?_
        show Steps p.tables e below (T5.setTop (mkF m 756 #[.val (.long pa), .second, .val (.int pp), .val (.int pq), .val (.int pc), .val (.int pd), .val (.long pm), .second, .val (.int (lf_near pa pp pq pc pd pm)), .val (.long (lf_delta pa pp pq pc pd pm)), .second, .val (.ref pw_3), .val (.long (sb_v pa pp pd)), .second, .val (.int (sb_n pa pp pd)), .val (.int (sb_top pa pp pd)), .val (.ref tc_4), .val (.int (own_bad pq)), .val (.int (own_big (sb_n pa pp pd) (sb_top pa pp pd))), .unset, .unset, .unset, .unset, .unset, .unset] [(.long ((sb_v pa pp pd) - (sb_v pa pp pd) / (own_pj (sb_n pa pp pd)) * (own_pj (sb_n pa pp pd))))])) t
        have q : (lf_val pa pp pq pc pd pm) = ((sb_v pa pp pd) - (sb_v pa pp pd) / (own_pj (sb_n pa pp pd)) * (own_pj (sb_n pa pp pd))) := by simp only [lf_val, c8, if_true, if_false, Bool.false_eq_true]; try rfl
        rw [q] at k
        clear q
        exact k
      · refine XS.icmpNo X5.here hx rfl (hb hby at_740) rfl (Bool.eq_false_iff.mpr c8) ?_
        show Steps p.tables e below (T5.setTop (mkF m 743 #[.val (.long pa), .second, .val (.int pp), .val (.int pq), .val (.int pc), .val (.int pd), .val (.long pm), .second, .val (.int (lf_near pa pp pq pc pd pm)), .val (.long (lf_delta pa pp pq pc pd pm)), .second, .val (.ref pw_3), .val (.long (sb_v pa pp pd)), .second, .val (.int (sb_n pa pp pd)), .val (.int (sb_top pa pp pd)), .val (.ref tc_4), .val (.int (own_bad pq)), .val (.int (own_big (sb_n pa pp pd) (sb_top pa pp pd))), .unset, .unset, .unset, .unset, .unset, .unset] [])) t
        refine XT.lload X5.here hx rfl (hb hby at_743) rfl ?_
        show Steps p.tables e below (T5.setTop (mkF m 745 #[.val (.long pa), .second, .val (.int pp), .val (.int pq), .val (.int pc), .val (.int pd), .val (.long pm), .second, .val (.int (lf_near pa pp pq pc pd pm)), .val (.long (lf_delta pa pp pq pc pd pm)), .second, .val (.ref pw_3), .val (.long (sb_v pa pp pd)), .second, .val (.int (sb_n pa pp pd)), .val (.int (sb_top pa pp pd)), .val (.ref tc_4), .val (.int (own_bad pq)), .val (.int (own_big (sb_n pa pp pd) (sb_top pa pp pd))), .unset, .unset, .unset, .unset, .unset, .unset] [(.long (sb_v pa pp pd))])) t
        refine XS.goto X5.here hx rfl (pc0 := 745) (pc' := 756) rfl (hb hby at_745) (by decide) (by decide) ?_
        show Steps p.tables e below (T5.setTop (mkF m 756 #[.val (.long pa), .second, .val (.int pp), .val (.int pq), .val (.int pc), .val (.int pd), .val (.long pm), .second, .val (.int (lf_near pa pp pq pc pd pm)), .val (.long (lf_delta pa pp pq pc pd pm)), .second, .val (.ref pw_3), .val (.long (sb_v pa pp pd)), .second, .val (.int (sb_n pa pp pd)), .val (.int (sb_top pa pp pd)), .val (.ref tc_4), .val (.int (own_bad pq)), .val (.int (own_big (sb_n pa pp pd) (sb_top pa pp pd))), .unset, .unset, .unset, .unset, .unset, .unset] [(.long (sb_v pa pp pd))])) t
        have q : (lf_val pa pp pq pc pd pm) = (sb_v pa pp pd) := by simp only [lf_val, c8, if_true, if_false, Bool.false_eq_true]; try rfl
        rw [q] at k
        clear q
        exact k
    refine sg7 _ ?_
    show Steps p.tables e below (T5.setTop (mkF m 756 #[.val (.long pa), .second, .val (.int pp), .val (.int pq), .val (.int pc), .val (.int pd), .val (.long pm), .second, .val (.int (lf_near pa pp pq pc pd pm)), .val (.long (lf_delta pa pp pq pc pd pm)), .second, .val (.ref pw_3), .val (.long (sb_v pa pp pd)), .second, .val (.int (sb_n pa pp pd)), .val (.int (sb_top pa pp pd)), .val (.ref tc_4), .val (.int (own_bad pq)), .val (.int (own_big (sb_n pa pp pd) (sb_top pa pp pd))), .unset, .unset, .unset, .unset, .unset, .unset] [(.long (lf_val pa pp pq pc pd pm))])) _
    refine XT.lstore X5.here hx rfl (hb hby at_756) rfl (l' := #[.val (.long pa), .second, .val (.int pp), .val (.int pq), .val (.int pc), .val (.int pd), .val (.long pm), .second, .val (.int (lf_near pa pp pq pc pd pm)), .val (.long (lf_delta pa pp pq pc pd pm)), .second, .val (.ref pw_3), .val (.long (sb_v pa pp pd)), .second, .val (.int (sb_n pa pp pd)), .val (.int (sb_top pa pp pd)), .val (.ref tc_4), .val (.int (own_bad pq)), .val (.int (own_big (sb_n pa pp pd) (sb_top pa pp pd))), .val (.long (lf_val pa pp pq pc pd pm)), .second, .unset, .unset, .unset, .unset]) rfl ?_
    show Steps p.tables e below (T5.setTop (mkF m 758 #[.val (.long pa), .second, .val (.int pp), .val (.int pq), .val (.int pc), .val (.int pd), .val (.long pm), .second, .val (.int (lf_near pa pp pq pc pd pm)), .val (.long (lf_delta pa pp pq pc pd pm)), .second, .val (.ref pw_3), .val (.long (sb_v pa pp pd)), .second, .val (.int (sb_n pa pp pd)), .val (.int (sb_top pa pp pd)), .val (.ref tc_4), .val (.int (own_bad pq)), .val (.int (own_big (sb_n pa pp pd) (sb_top pa pp pd))), .val (.long (lf_val pa pp pq pc pd pm)), .second, .unset, .unset, .unset, .unset] [])) _
    refine XS.iload X5.here hx rfl (hb hby at_758) rfl ?_
    show Steps p.tables e below (T5.setTop (mkF m 760 #[.val (.long pa), .second, .val (.int pp), .val (.int pq), .val (.int pc), .val (.int pd), .val (.long pm), .second, .val (.int (lf_near pa pp pq pc pd pm)), .val (.long (lf_delta pa pp pq pc pd pm)), .second, .val (.ref pw_3), .val (.long (sb_v pa pp pd)), .second, .val (.int (sb_n pa pp pd)), .val (.int (sb_top pa pp pd)), .val (.ref tc_4), .val (.int (own_bad pq)), .val (.int (own_big (sb_n pa pp pd) (sb_top pa pp pd))), .val (.long (lf_val pa pp pq pc pd pm)), .second, .unset, .unset, .unset, .unset] [(.int (lf_near pa pp pq pc pd pm))])) _
    have sg9 : ∀ t, Steps p.tables e below (T5.setTop (mkF m 773 #[.val (.long pa), .second, .val (.int pp), .val (.int pq), .val (.int pc), .val (.int pd), .val (.long pm), .second, .val (.int (lf_near pa pp pq pc pd pm)), .val (.long (lf_delta pa pp pq pc pd pm)), .second, .val (.ref pw_3), .val (.long (sb_v pa pp pd)), .second, .val (.int (sb_n pa pp pd)), .val (.int (sb_top pa pp pd)), .val (.ref tc_4), .val (.int (own_bad pq)), .val (.int (own_big (sb_n pa pp pd) (sb_top pa pp pd))), .val (.long (lf_val pa pp pq pc pd pm)), .second, .unset, .unset, .unset, .unset] [(.long (lf_max pa pp pq pc pd pm))])) t → Steps p.tables e below (T5.setTop (mkF m 760 #[.val (.long pa), .second, .val (.int pp), .val (.int pq), .val (.int pc), .val (.int pd), .val (.long pm), .second, .val (.int (lf_near pa pp pq pc pd pm)), .val (.long (lf_delta pa pp pq pc pd pm)), .second, .val (.ref pw_3), .val (.long (sb_v pa pp pd)), .second, .val (.int (sb_n pa pp pd)), .val (.int (sb_top pa pp pd)), .val (.ref tc_4), .val (.int (own_bad pq)), .val (.int (own_big (sb_n pa pp pd) (sb_top pa pp pd))), .val (.long (lf_val pa pp pq pc pd pm)), .second, .unset, .unset, .unset, .unset] [(.int (lf_near pa pp pq pc pd pm))])) t := by
      intro t k
      by_cases c10 : (ifCond.holds .eq (lf_near pa pp pq pc pd pm)) = true
      · refine XS.ifYes X5.here hx rfl (pc0 := 760) (pc' := 771) rfl (hb hby at_760) rfl c10 (by decide) (by decide) ?_
        show Steps p.tables e below (T5.setTop (mkF m 771 #[.val (.long pa), .second, .val (.int pp), .val (.int pq), .val (.int pc), .val (.int pd), .val (.long pm), .second, .val (.int (lf_near pa pp pq pc pd pm)), .val (.long (lf_delta pa pp pq pc pd pm)), .second, .val (.ref pw_3), .val (.long (sb_v pa pp pd)), .second, .val (.int (sb_n pa pp pd)), .val (.int (sb_top pa pp pd)), .val (.ref tc_4), .val (.int (own_bad pq)), .val (.int (own_big (sb_n pa pp pd) (sb_top pa pp pd))), .val (.long (lf_val pa pp pq pc pd pm)), .second, .unset, .unset, .unset, .unset] [])) t
        refine XT.lload X5.here hx rfl (hb hby at_771) rfl ?_
        show Steps p.tables e below (T5.setTop (mkF m 773 #[.val (.long pa), .second, .val (.int pp), .val (.int pq), .val (.int pc), .val (.int pd), .val (.long pm), .second, .val (.int (lf_near pa pp pq pc pd pm)), .val (.long (lf_delta pa pp pq pc pd pm)), .second, .val (.ref pw_3), .val (.long (sb_v pa pp pd)), .second, .val (.int (sb_n pa pp pd)), .val (.int (sb_top pa pp pd)), .val (.ref tc_4), .val (.int (own_bad pq)), .val (.int (own_big (sb_n pa pp pd) (sb_top pa pp pd))), .val (.long (lf_val pa pp pq pc pd pm)), .second, .unset, .unset, .unset, .unset] [(.long pm)])) t
        have q : (lf_max pa pp pq pc pd pm) = pm := by simp only [lf_max, c10, if_true, if_false, Bool.false_eq_true]; try rfl
        rw [q] at k
        clear q
        exact k
      · refine XS.ifNo X5.here hx rfl (hb hby at_760) rfl (Bool.eq_false_iff.mpr c10) ?_
        show Steps p.tables e below (T5.setTop (mkF m 763 #[.val (.long pa), .second, .val (.int pp), .val (.int pq), .val (.int pc), .val (.int pd), .val (.long pm), .second, .val (.int (lf_near pa pp pq pc pd pm)), .val (.long (lf_delta pa pp pq pc pd pm)), .second, .val (.ref pw_3), .val (.long (sb_v pa pp pd)), .second, .val (.int (sb_n pa pp pd)), .val (.int (sb_top pa pp pd)), .val (.ref tc_4), .val (.int (own_bad pq)), .val (.int (own_big (sb_n pa pp pd) (sb_top pa pp pd))), .val (.long (lf_val pa pp pq pc pd pm)), .second, .unset, .unset, .unset, .unset] [])) t
        refine XT.lload X5.here hx rfl (hb hby at_763) rfl ?_
        show Steps p.tables e below (T5.setTop (mkF m 765 #[.val (.long pa), .second, .val (.int pp), .val (.int pq), .val (.int pc), .val (.int pd), .val (.long pm), .second, .val (.int (lf_near pa pp pq pc pd pm)), .val (.long (lf_delta pa pp pq pc pd pm)), .second, .val (.ref pw_3), .val (.long (sb_v pa pp pd)), .second, .val (.int (sb_n pa pp pd)), .val (.int (sb_top pa pp pd)), .val (.ref tc_4), .val (.int (own_bad pq)), .val (.int (own_big (sb_n pa pp pd) (sb_top pa pp pd))), .val (.long (lf_val pa pp pq pc pd pm)), .second, .unset, .unset, .unset, .unset] [(.long (lf_val pa pp pq pc pd pm))])) t
        refine XT.lload X5.here hx rfl (hb hby at_765) rfl ?_
        show Steps p.tables e below (T5.setTop (mkF m 767 #[.val (.long pa), .second, .val (.int pp), .val (.int pq), .val (.int pc), .val (.int pd), .val (.long pm), .second, .val (.int (lf_near pa pp pq pc pd pm)), .val (.long (lf_delta pa pp pq pc pd pm)), .second, .val (.ref pw_3), .val (.long (sb_v pa pp pd)), .second, .val (.int (sb_n pa pp pd)), .val (.int (sb_top pa pp pd)), .val (.ref tc_4), .val (.int (own_bad pq)), .val (.int (own_big (sb_n pa pp pd) (sb_top pa pp pd))), .val (.long (lf_val pa pp pq pc pd pm)), .second, .unset, .unset, .unset, .unset] [(.long (lf_delta pa pp pq pc pd pm)), (.long (lf_val pa pp pq pc pd pm))])) t
        refine XT.ladd X5.here hx rfl (hb hby at_767) rfl ?_
        show Steps p.tables e below (T5.setTop (mkF m 768 #[.val (.long pa), .second, .val (.int pp), .val (.int pq), .val (.int pc), .val (.int pd), .val (.long pm), .second, .val (.int (lf_near pa pp pq pc pd pm)), .val (.long (lf_delta pa pp pq pc pd pm)), .second, .val (.ref pw_3), .val (.long (sb_v pa pp pd)), .second, .val (.int (sb_n pa pp pd)), .val (.int (sb_top pa pp pd)), .val (.ref tc_4), .val (.int (own_bad pq)), .val (.int (own_big (sb_n pa pp pd) (sb_top pa pp pd))), .val (.long (lf_val pa pp pq pc pd pm)), .second, .unset, .unset, .unset, .unset] [(.long ((lf_val pa pp pq pc pd pm) + (lf_delta pa pp pq pc pd pm)))])) t
        refine XS.goto X5.here hx rfl (pc0 := 768) (pc' := 773) rfl (hb hby at_768) (by decide) (by decide) ?_
        show Steps p.tables e below (T5.setTop (mkF m 773 #[.val (.long pa), .second, .val (.int pp), .val (.int pq), .val (.int pc), .val (.int pd), .val (.long pm), .second, .val (.int (lf_near pa pp pq pc pd pm)), .val (.long (lf_delta pa pp pq pc pd pm)), .second, .val (.ref pw_3), .val (.long (sb_v pa pp pd)), .second, .val (.int (sb_n pa pp pd)), .val (.int (sb_top pa pp pd)), .val (.ref tc_4), .val (.int (own_bad pq)), .val (.int (own_big (sb_n pa pp pd) (sb_top pa pp pd))), .val (.long (lf_val pa pp pq pc pd pm)), .second, .unset, .unset, .unset, .unset] [(.long ((lf_val pa pp pq pc pd pm) + (lf_delta pa pp pq pc pd pm)))])) t
        have q : (lf_max pa pp pq pc pd pm) = ((lf_val pa pp pq pc pd pm) + (lf_delta pa pp pq pc pd pm)) := by simp only [lf_max, c10, if_true, if_false, Bool.false_eq_true]; try rfl
        rw [q] at k
        clear q
        exact k
    refine sg9 _ ?_
    show Steps p.tables e below (T5.setTop (mkF m 773 #[.val (.long pa), .second, .val (.int pp), .val (.int pq), .val (.int pc), .val (.int pd), .val (.long pm), .second, .val (.int (lf_near pa pp pq pc pd pm)), .val (.long (lf_delta pa pp pq pc pd pm)), .second, .val (.ref pw_3), .val (.long (sb_v pa pp pd)), .second, .val (.int (sb_n pa pp pd)), .val (.int (sb_top pa pp pd)), .val (.ref tc_4), .val (.int (own_bad pq)), .val (.int (own_big (sb_n pa pp pd) (sb_top pa pp pd))), .val (.long (lf_val pa pp pq pc pd pm)), .second, .unset, .unset, .unset, .unset] [(.long (lf_max pa pp pq pc pd pm))])) _
    refine XT.lstore X5.here hx rfl (hb hby at_773) rfl (l' := #[.val (.long pa), .second, .val (.int pp), .val (.int pq), .val (.int pc), .val (.int pd), .val (.long pm), .second, .val (.int (lf_near pa pp pq pc pd pm)), .val (.long (lf_delta pa pp pq pc pd pm)), .second, .val (.ref pw_3), .val (.long (sb_v pa pp pd)), .second, .val (.int (sb_n pa pp pd)), .val (.int (sb_top pa pp pd)), .val (.ref tc_4), .val (.int (own_bad pq)), .val (.int (own_big (sb_n pa pp pd) (sb_top pa pp pd))), .val (.long (lf_val pa pp pq pc pd pm)), .second, .val (.long (lf_max pa pp pq pc pd pm)), .second, .unset, .unset]) rfl ?_
    show Steps p.tables e below (T5.setTop (mkF m 775 #[.val (.long pa), .second, .val (.int pp), .val (.int pq), .val (.int pc), .val (.int pd), .val (.long pm), .second, .val (.int (lf_near pa pp pq pc pd pm)), .val (.long (lf_delta pa pp pq pc pd pm)), .second, .val (.ref pw_3), .val (.long (sb_v pa pp pd)), .second, .val (.int (sb_n pa pp pd)), .val (.int (sb_top pa pp pd)), .val (.ref tc_4), .val (.int (own_bad pq)), .val (.int (own_big (sb_n pa pp pd) (sb_top pa pp pd))), .val (.long (lf_val pa pp pq pc pd pm)), .second, .val (.long (lf_max pa pp pq pc pd pm)), .second, .unset, .unset] [])) _
    refine XS.iload X5.here hx rfl (hb hby at_775) rfl ?_
    show Steps p.tables e below (T5.setTop (mkF m 777 #[.val (.long pa), .second, .val (.int pp), .val (.int pq), .val (.int pc), .val (.int pd), .val (.long pm), .second, .val (.int (lf_near pa pp pq pc pd pm)), .val (.long (lf_delta pa pp pq pc pd pm)), .second, .val (.ref pw_3), .val (.long (sb_v pa pp pd)), .second, .val (.int (sb_n pa pp pd)), .val (.int (sb_top pa pp pd)), .val (.ref tc_4), .val (.int (own_bad pq)), .val (.int (own_big (sb_n pa pp pd) (sb_top pa pp pd))), .val (.long (lf_val pa pp pq pc pd pm)), .second, .val (.long (lf_max pa pp pq pc pd pm)), .second, .unset, .unset] [(.int (own_bad pq))])) _
    have sg11 : ∀ t, Steps p.tables e below (T5.setTop (mkF m 806 #[.val (.long pa), .second, .val (.int pp), .val (.int pq), .val (.int pc), .val (.int pd), .val (.long pm), .second, .val (.int (lf_near pa pp pq pc pd pm)), .val (.long (lf_delta pa pp pq pc pd pm)), .second, .val (.ref pw_3), .val (.long (sb_v pa pp pd)), .second, .val (.int (sb_n pa pp pd)), .val (.int (sb_top pa pp pd)), .val (.ref tc_4), .val (.int (own_bad pq)), .val (.int (own_big (sb_n pa pp pd) (sb_top pa pp pd))), .val (.long (lf_val pa pp pq pc pd pm)), .second, .val (.long (lf_max pa pp pq pc pd pm)), .second, .unset, .unset] [(.long (lf_exp pa pp pq pc pd pm))])) t → Steps p.tables e below (T5.setTop (mkF m 777 #[.val (.long pa), .second, .val (.int pp), .val (.int pq), .val (.int pc), .val (.int pd), .val (.long pm), .second, .val (.int (lf_near pa pp pq pc pd pm)), .val (.long (lf_delta pa pp pq pc pd pm)), .second, .val (.ref pw_3), .val (.long (sb_v pa pp pd)), .second, .val (.int (sb_n pa pp pd)), .val (.int (sb_top pa pp pd)), .val (.ref tc_4), .val (.int (own_bad pq)), .val (.int (own_big (sb_n pa pp pd) (sb_top pa pp pd))), .val (.long (lf_val pa pp pq pc pd pm)), .second, .val (.long (lf_max pa pp pq pc pd pm)), .second, .unset, .unset] [(.int (own_bad pq))])) t := by
      intro t k
      by_cases c12 : (ifCond.holds .ne (own_bad pq)) = true
      · refine XS.ifYes X5.here hx rfl (pc0 := 777) (pc' := 800) rfl (hb hby at_777) rfl c12 (by decide) (by decide) ?_
        show Steps p.tables e below (T5.setTop (mkF m 800 #[.val (.long pa), .second, .val (.int pp), .val (.int pq), .val (.int pc), .val (.int pd), .val (.long pm), .second, .val (.int (lf_near pa pp pq pc pd pm)), .val (.long (lf_delta pa pp pq pc pd pm)), .second, .val (.ref pw_3), .val (.long (sb_v pa pp pd)), .second, .val (.int (sb_n pa pp pd)), .val (.int (sb_top pa pp pd)), .val (.ref tc_4), .val (.int (own_bad pq)), .val (.int (own_big (sb_n pa pp pd) (sb_top pa pp pd))), .val (.long (lf_val pa pp pq pc pd pm)), .second, .val (.long (lf_max pa pp pq pc pd pm)), .second, .unset, .unset] [])) t
        refine XT.lconst X5.here hx rfl (hb hby at_800) ?_
        show Steps p.tables e below (T5.setTop (mkF m 801 #[.val (.long pa), .second, .val (.int pp), .val (.int pq), .val (.int pc), .val (.int pd), .val (.long pm), .second, .val (.int (lf_near pa pp pq pc pd pm)), .val (.long (lf_delta pa pp pq pc pd pm)), .second, .val (.ref pw_3), .val (.long (sb_v pa pp pd)), .second, .val (.int (sb_n pa pp pd)), .val (.int (sb_top pa pp pd)), .val (.ref tc_4), .val (.int (own_bad pq)), .val (.int (own_big (sb_n pa pp pd) (sb_top pa pp pd))), .val (.long (lf_val pa pp pq pc pd pm)), .second, .val (.long (lf_max pa pp pq pc pd pm)), .second, .unset, .unset] [(.long (0 : Int64))])) t
        refine XS.goto X5.here hx rfl (pc0 := 801) (pc' := 806) rfl (hb hby at_801) (by decide) (by decide) ?_
        show Steps p.tables e below (T5.setTop (mkF m 806 #[.val (.long pa), .second, .val (.int pp), .val (.int pq), .val (.int pc), .val (.int pd), .val (.long pm), .second, .val (.int (lf_near pa pp pq pc pd pm)), .val (.long (lf_delta pa pp pq pc pd pm)), .second, .val (.ref pw_3), .val (.long (sb_v pa pp pd)), .second, .val (.int (sb_n pa pp pd)), .val (.int (sb_top pa pp pd)), .val (.ref tc_4), .val (.int (own_bad pq)), .val (.int (own_big (sb_n pa pp pd) (sb_top pa pp pd))), .val (.long (lf_val pa pp pq pc pd pm)), .second, .val (.long (lf_max pa pp pq pc pd pm)), .second, .unset, .unset] [(.long (0 : Int64))])) t
        have q : (lf_exp pa pp pq pc pd pm) = (0 : Int64) := by simp only [lf_exp, c12, if_true, if_false, Bool.false_eq_true]; try rfl
        rw [q] at k
        clear q
        exact k
      · refine XS.ifNo X5.here hx rfl (hb hby at_777) rfl (Bool.eq_false_iff.mpr c12) ?_
        show Steps p.tables e below (T5.setTop (mkF m 780 #[.val (.long pa), .second, .val (.int pp), .val (.int pq), .val (.int pc), .val (.int pd), .val (.long pm), .second, .val (.int (lf_near pa pp pq pc pd pm)), .val (.long (lf_delta pa pp pq pc pd pm)), .second, .val (.ref pw_3), .val (.long (sb_v pa pp pd)), .second, .val (.int (sb_n pa pp pd)), .val (.int (sb_top pa pp pd)), .val (.ref tc_4), .val (.int (own_bad pq)), .val (.int (own_big (sb_n pa pp pd) (sb_top pa pp pd))), .val (.long (lf_val pa pp pq pc pd pm)), .second, .val (.long (lf_max pa pp pq pc pd pm)), .second, .unset, .unset] [])) t
        refine XS.iload X5.here hx rfl (hb hby at_780) rfl ?_
        show Steps p.tables e below (T5.setTop (mkF m 782 #[.val (.long pa), .second, .val (.int pp), .val (.int pq), .val (.int pc), .val (.int pd), .val (.long pm), .second, .val (.int (lf_near pa pp pq pc pd pm)), .val (.long (lf_delta pa pp pq pc pd pm)), .second, .val (.ref pw_3), .val (.long (sb_v pa pp pd)), .second, .val (.int (sb_n pa pp pd)), .val (.int (sb_top pa pp pd)), .val (.ref tc_4), .val (.int (own_bad pq)), .val (.int (own_big (sb_n pa pp pd) (sb_top pa pp pd))), .val (.long (lf_val pa pp pq pc pd pm)), .second, .val (.long (lf_max pa pp pq pc pd pm)), .second, .unset, .unset] [(.int (own_big (sb_n pa pp pd) (sb_top pa pp pd)))])) t
        by_cases c13 : (ifCond.holds .ne (own_big (sb_n pa pp pd) (sb_top pa pp pd))) = true
        · refine XS.ifYes X5.here hx rfl (pc0 := 782) (pc' := 800) rfl (hb hby at_782) rfl c13 (by decide) (by decide) ?_
          show Steps p.tables e below (T5.setTop (mkF m 800 #[.val (.long pa), .second, .val (.int pp), .val (.int pq), .val (.int pc), .val (.int pd), .val (.long pm), .second, .val (.int (lf_near pa pp pq pc pd pm)), .val (.long (lf_delta pa pp pq pc pd pm)), .second, .val (.ref pw_3), .val (.long (sb_v pa pp pd)), .second, .val (.int (sb_n pa pp pd)), .val (.int (sb_top pa pp pd)), .val (.ref tc_4), .val (.int (own_bad pq)), .val (.int (own_big (sb_n pa pp pd) (sb_top pa pp pd))), .val (.long (lf_val pa pp pq pc pd pm)), .second, .val (.long (lf_max pa pp pq pc pd pm)), .second, .unset, .unset] [])) t
          refine XT.lconst X5.here hx rfl (hb hby at_800) ?_
          show Steps p.tables e below (T5.setTop (mkF m 801 #[.val (.long pa), .second, .val (.int pp), .val (.int pq), .val (.int pc), .val (.int pd), .val (.long pm), .second, .val (.int (lf_near pa pp pq pc pd pm)), .val (.long (lf_delta pa pp pq pc pd pm)), .second, .val (.ref pw_3), .val (.long (sb_v pa pp pd)), .second, .val (.int (sb_n pa pp pd)), .val (.int (sb_top pa pp pd)), .val (.ref tc_4), .val (.int (own_bad pq)), .val (.int (own_big (sb_n pa pp pd) (sb_top pa pp pd))), .val (.long (lf_val pa pp pq pc pd pm)), .second, .val (.long (lf_max pa pp pq pc pd pm)), .second, .unset, .unset] [(.long (0 : Int64))])) t
          refine XS.goto X5.here hx rfl (pc0 := 801) (pc' := 806) rfl (hb hby at_801) (by decide) (by decide) ?_
          show Steps p.tables e below (T5.setTop (mkF m 806 #[.val (.long pa), .second, .val (.int pp), .val (.int pq), .val (.int pc), .val (.int pd), .val (.long pm), .second, .val (.int (lf_near pa pp pq pc pd pm)), .val (.long (lf_delta pa pp pq pc pd pm)), .second, .val (.ref pw_3), .val (.long (sb_v pa pp pd)), .second, .val (.int (sb_n pa pp pd)), .val (.int (sb_top pa pp pd)), .val (.ref tc_4), .val (.int (own_bad pq)), .val (.int (own_big (sb_n pa pp pd) (sb_top pa pp pd))), .val (.long (lf_val pa pp pq pc pd pm)), .second, .val (.long (lf_max pa pp pq pc pd pm)), .second, .unset, .unset] [(.long (0 : Int64))])) t
          have q : (lf_exp pa pp pq pc pd pm) = (0 : Int64) := by simp only [lf_exp, c12, c13, if_true, if_false, Bool.false_eq_true]; try rfl
          rw [q] at k
          clear q
          exact k
        · refine XS.ifNo X5.here hx rfl (hb hby at_782) rfl (Bool.eq_false_iff.mpr c13) ?_
          show Steps p.tables e below (T5.setTop (mkF m 785 #[.val (.long pa), .second, .val (.int pp), .val (.int pq), .val (.int pc), .val (.int pd), .val (.long pm), .second, .val (.int (lf_near pa pp pq pc pd pm)), .val (.long (lf_delta pa pp pq pc pd pm)), .second, .val (.ref pw_3), .val (.long (sb_v pa pp pd)), .second, .val (.int (sb_n pa pp pd)), .val (.int (sb_top pa pp pd)), .val (.ref tc_4), .val (.int (own_bad pq)), .val (.int (own_big (sb_n pa pp pd) (sb_top pa pp pd))), .val (.long (lf_val pa pp pq pc pd pm)), .second, .val (.long (lf_max pa pp pq pc pd pm)), .second, .unset, .unset] [])) t
          refine XT.lload X5.here hx rfl (hb hby at_785) rfl ?_
          show Steps p.tables e below (T5.setTop (mkF m 787 #[.val (.long pa), .second, .val (.int pp), .val (.int pq), .val (.int pc), .val (.int pd), .val (.long pm), .second, .val (.int (lf_near pa pp pq pc pd pm)), .val (.long (lf_delta pa pp pq pc pd pm)), .second, .val (.ref pw_3), .val (.long (sb_v pa pp pd)), .second, .val (.int (sb_n pa pp pd)), .val (.int (sb_top pa pp pd)), .val (.ref tc_4), .val (.int (own_bad pq)), .val (.int (own_big (sb_n pa pp pd) (sb_top pa pp pd))), .val (.long (lf_val pa pp pq pc pd pm)), .second, .val (.long (lf_max pa pp pq pc pd pm)), .second, .unset, .unset] [(.long (lf_val pa pp pq pc pd pm))])) t
          refine XT.lconst X5.here hx rfl (hb hby at_787) ?_
          show Steps p.tables e below (T5.setTop (mkF m 788 #[.val (.long pa), .second, .val (.int pp), .val (.int pq), .val (.int pc), .val (.int pd), .val (.long pm), .second, .val (.int (lf_near pa pp pq pc pd pm)), .val (.long (lf_delta pa pp pq pc pd pm)), .second, .val (.ref pw_3), .val (.long (sb_v pa pp pd)), .second, .val (.int (sb_n pa pp pd)), .val (.int (sb_top pa pp pd)), .val (.ref tc_4), .val (.int (own_bad pq)), .val (.int (own_big (sb_n pa pp pd) (sb_top pa pp pd))), .val (.long (lf_val pa pp pq pc pd pm)), .second, .val (.long (lf_max pa pp pq pc pd pm)), .second, .unset, .unset] [(.long (1 : Int64)), (.long (lf_val pa pp pq pc pd pm))])) t
          refine XT.lcmp X5.here hx rfl (hb hby at_788) rfl ?_
          show Steps p.tables e below (T5.setTop (mkF m 789 #[.val (.long pa), .second, .val (.int pp), .val (.int pq), .val (.int pc), .val (.int pd), .val (.long pm), .second, .val (.int (lf_near pa pp pq pc pd pm)), .val (.long (lf_delta pa pp pq pc pd pm)), .second, .val (.ref pw_3), .val (.long (sb_v pa pp pd)), .second, .val (.int (sb_n pa pp pd)), .val (.int (sb_top pa pp pd)), .val (.ref tc_4), .val (.int (own_bad pq)), .val (.int (own_big (sb_n pa pp pd) (sb_top pa pp pd))), .val (.long (lf_val pa pp pq pc pd pm)), .second, .val (.long (lf_max pa pp pq pc pd pm)), .second, .unset, .unset] [(.int (XT.cmpL (lf_val pa pp pq pc pd pm) (1 : Int64)))])) t
          by_cases c14 : (ifCond.holds .lt (XT.cmpL (lf_val pa pp pq pc pd pm) (1 : Int64))) = true
          · refine XS.ifYes X5.here hx rfl (pc0 := 789) (pc' := 800) rfl (hb hby at_789) rfl c14 (by decide) (by decide) ?_
            show Steps p.tables e below (T5.setTop (mkF m 800 #[.val (.long pa), .second, .val (.int pp), .val (.int pq), .val (.int pc), .val (.int pd), .val (.long pm), .second, .val (.int (lf_near pa pp pq pc pd pm)), .val (.long (lf_delta pa pp pq pc pd pm)), .second, .val (.ref pw_3), .val (.long (sb_v pa pp pd)), .second, .val (.int (sb_n pa pp pd)), .val (.int (sb_top pa pp pd)), .val (.ref tc_4), .val (.int (own_bad pq)), .val (.int (own_big (sb_n pa pp pd) (sb_top pa pp pd))), .val (.long (lf_val pa pp pq pc pd pm)), .second, .val (.long (lf_max pa pp pq pc pd pm)), .second, .unset, .unset] [])) t
            refine XT.lconst X5.here hx rfl (hb hby at_800) ?_
            show Steps p.tables e below (T5.setTop (mkF m 801 #[.val (.long pa), .second, .val (.int pp), .val (.int pq), .val (.int pc), .val (.int pd), .val (.long pm), .second, .val (.int (lf_near pa pp pq pc pd pm)), .val (.long (lf_delta pa pp pq pc pd pm)), .second, .val (.ref pw_3), .val (.long (sb_v pa pp pd)), .second, .val (.int (sb_n pa pp pd)), .val (.int (sb_top pa pp pd)), .val (.ref tc_4), .val (.int (own_bad pq)), .val (.int (own_big (sb_n pa pp pd) (sb_top pa pp pd))), .val (.long (lf_val pa pp pq pc pd pm)), .second, .val (.long (lf_max pa pp pq pc pd pm)), .second, .unset, .unset] [(.long (0 : Int64))])) t
            refine XS.goto X5.here hx rfl (pc0 := 801) (pc' := 806) rfl (hb hby at_801) (by decide) (by decide) ?_
            show Steps p.tables e below (T5.setTop (mkF m 806 #[.val (.long pa), .second, .val (.int pp), .val (.int pq), .val (.int pc), .val (.int pd), .val (.long pm), .second, .val (.int (lf_near pa pp pq pc pd pm)), .val (.long (lf_delta pa pp pq pc pd pm)), .second, .val (.ref pw_3), .val (.long (sb_v pa pp pd)), .second, .val (.int (sb_n pa pp pd)), .val (.int (sb_top pa pp pd)), .val (.ref tc_4), .val (.int (own_bad pq)), .val (.int (own_big (sb_n pa pp pd) (sb_top pa pp pd))), .val (.long (lf_val pa pp pq pc pd pm)), .second, .val (.long (lf_max pa pp pq pc pd pm)), .second, .unset, .unset] [(.long (0 : Int64))])) t
            have q : (lf_exp pa pp pq pc pd pm) = (0 : Int64) := by simp only [lf_exp, c12, c13, c14, if_true, if_false, Bool.false_eq_true]; try rfl
            rw [q] at k
            clear q
            exact k
          · refine XS.ifNo X5.here hx rfl (hb hby at_789) rfl (Bool.eq_false_iff.mpr c14) ?_
            show Steps p.tables e below (T5.setTop (mkF m 792 #[.val (.long pa), .second, .val (.int pp), .val (.int pq), .val (.int pc), .val (.int pd), .val (.long pm), .second, .val (.int (lf_near pa pp pq pc pd pm)), .val (.long (lf_delta pa pp pq pc pd pm)), .second, .val (.ref pw_3), .val (.long (sb_v pa pp pd)), .second, .val (.int (sb_n pa pp pd)), .val (.int (sb_top pa pp pd)), .val (.ref tc_4), .val (.int (own_bad pq)), .val (.int (own_big (sb_n pa pp pd) (sb_top pa pp pd))), .val (.long (lf_val pa pp pq pc pd pm)), .second, .val (.long (lf_max pa pp pq pc pd pm)), .second, .unset, .unset] [])) t
            refine XT.lload X5.here hx rfl (hb hby at_792) rfl ?_
            show Steps p.tables e below (T5.setTop (mkF m 794 #[.val (.long pa), .second, .val (.int pp), .val (.int pq), .val (.int pc), .val (.int pd), .val (.long pm), .second, .val (.int (lf_near pa pp pq pc pd pm)), .val (.long (lf_delta pa pp pq pc pd pm)), .second, .val (.ref pw_3), .val (.long (sb_v pa pp pd)), .second, .val (.int (sb_n pa pp pd)), .val (.int (sb_top pa pp pd)), .val (.ref tc_4), .val (.int (own_bad pq)), .val (.int (own_big (sb_n pa pp pd) (sb_top pa pp pd))), .val (.long (lf_val pa pp pq pc pd pm)), .second, .val (.long (lf_max pa pp pq pc pd pm)), .second, .unset, .unset] [(.long (lf_val pa pp pq pc pd pm))])) t
            refine XT.lload X5.here hx rfl (hb hby at_794) rfl ?_
            show Steps p.tables e below (T5.setTop (mkF m 796 #[.val (.long pa), .second, .val (.int pp), .val (.int pq), .val (.int pc), .val (.int pd), .val (.long pm), .second, .val (.int (lf_near pa pp pq pc pd pm)), .val (.long (lf_delta pa pp pq pc pd pm)), .second, .val (.ref pw_3), .val (.long (sb_v pa pp pd)), .second, .val (.int (sb_n pa pp pd)), .val (.int (sb_top pa pp pd)), .val (.ref tc_4), .val (.int (own_bad pq)), .val (.int (own_big (sb_n pa pp pd) (sb_top pa pp pd))), .val (.long (lf_val pa pp pq pc pd pm)), .second, .val (.long (lf_max pa pp pq pc pd pm)), .second, .unset, .unset] [(.long (lf_max pa pp pq pc pd pm)), (.long (lf_val pa pp pq pc pd pm))])) t
            refine XT.lcmp X5.here hx rfl (hb hby at_796) rfl ?_
            show Steps p.tables e below (T5.setTop (mkF m 797 #[.val (.long pa), .second, .val (.int pp), .val (.int pq), .val (.int pc), .val (.int pd), .val (.long pm), .second, .val (.int (lf_near pa pp pq pc pd pm)), .val (.long (lf_delta pa pp pq pc pd pm)), .second, .val (.ref pw_3), .val (.long (sb_v pa pp pd)), .second, .val (.int (sb_n pa pp pd)), .val (.int (sb_top pa pp pd)), .val (.ref tc_4), .val (.int (own_bad pq)), .val (.int (own_big (sb_n pa pp pd) (sb_top pa pp pd))), .val (.long (lf_val pa pp pq pc pd pm)), .second, .val (.long (lf_max pa pp pq pc pd pm)), .second, .unset, .unset] [(.int (XT.cmpL (lf_val pa pp pq pc pd pm) (lf_max pa pp pq pc pd pm)))])) t
            by_cases c15 : (ifCond.holds .le (XT.cmpL (lf_val pa pp pq pc pd pm) (lf_max pa pp pq pc pd pm))) = true
            · refine XS.ifYes X5.here hx rfl (pc0 := 797) (pc' := 804) rfl (hb hby at_797) rfl c15 (by decide) (by decide) ?_
              show Steps p.tables e below (T5.setTop (mkF m 804 #[.val (.long pa), .second, .val (.int pp), .val (.int pq), .val (.int pc), .val (.int pd), .val (.long pm), .second, .val (.int (lf_near pa pp pq pc pd pm)), .val (.long (lf_delta pa pp pq pc pd pm)), .second, .val (.ref pw_3), .val (.long (sb_v pa pp pd)), .second, .val (.int (sb_n pa pp pd)), .val (.int (sb_top pa pp pd)), .val (.ref tc_4), .val (.int (own_bad pq)), .val (.int (own_big (sb_n pa pp pd) (sb_top pa pp pd))), .val (.long (lf_val pa pp pq pc pd pm)), .second, .val (.long (lf_max pa pp pq pc pd pm)), .second, .unset, .unset] [])) t
              refine XT.lload X5.here hx rfl (hb hby at_804) rfl ?_
              show Steps p.tables e below (T5.setTop (mkF m 806 #[.val (.long pa), .second, .val (.int pp), .val (.int pq), .val (.int pc), .val (.int pd), .val (.long pm), .second, .val (.int (lf_near pa pp pq pc pd pm)), .val (.long (lf_delta pa pp pq pc pd pm)), .second, .val (.ref pw_3), .val (.long (sb_v pa pp pd)), .second, .val (.int (sb_n pa pp pd)), .val (.int (sb_top pa pp pd)), .val (.ref tc_4), .val (.int (own_bad pq)), .val (.int (own_big (sb_n pa pp pd) (sb_top pa pp pd))), .val (.long (lf_val pa pp pq pc pd pm)), .second, .val (.long (lf_max pa pp pq pc pd pm)), .second, .unset, .unset] [(.long (lf_val pa pp pq pc pd pm))])) t
              have q : (lf_exp pa pp pq pc pd pm) = (lf_val pa pp pq pc pd pm) := by simp only [lf_exp, c12, c13, c14, c15, if_true, if_false, Bool.false_eq_true]; try rfl
              rw [q] at k
              clear q
              exact k
            · refine XS.ifNo X5.here hx rfl (hb hby at_797) rfl (Bool.eq_false_iff.mpr c15) ?_
              show Steps p.tables e below (T5.setTop (mkF m 800 #[.val (.long pa), .second, .val (.int pp), .val (.int pq), .val (.int pc), .val (.int pd), .val (.long pm), .second, .val (.int (lf_near pa pp pq pc pd pm)), .val (.long (lf_delta pa pp pq pc pd pm)), .second, .val (.ref pw_3), .val (.long (sb_v pa pp pd)), .second, .val (.int (sb_n pa pp pd)), .val (.int (sb_top pa pp pd)), .val (.ref tc_4), .val (.int (own_bad pq)), .val (.int (own_big (sb_n pa pp pd) (sb_top pa pp pd))), .val (.long (lf_val pa pp pq pc pd pm)), .second, .val (.long (lf_max pa pp pq pc pd pm)), .second, .unset, .unset] [])) t
              refine XT.lconst X5.here hx rfl (hb hby at_800) ?_
              show Steps p.tables e below (T5.setTop (mkF m 801 #[.val (.long pa), .second, .val (.int pp), .val (.int pq), .val (.int pc), .val (.int pd), .val (.long pm), .second, .val (.int (lf_near pa pp pq pc pd pm)), .val (.long (lf_delta pa pp pq pc pd pm)), .second, .val (.ref pw_3), .val (.long (sb_v pa pp pd)), .second, .val (.int (sb_n pa pp pd)), .val (.int (sb_top pa pp pd)), .val (.ref tc_4), .val (.int (own_bad pq)), .val (.int (own_big (sb_n pa pp pd) (sb_top pa pp pd))), .val (.long (lf_val pa pp pq pc pd pm)), .second, .val (.long (lf_max pa pp pq pc pd pm)), .second, .unset, .unset] [(.long (0 : Int64))])) t
              refine XS.goto X5.here hx rfl (pc0 := 801) (pc' := 806) rfl (hb hby at_801) (by decide) (by decide) ?_
              show Steps p.tables e below (T5.setTop (mkF m 806 #[.val (.long pa), .second, .val (.int pp), .val (.int pq), .val (.int pc), .val (.int pd), .val (.long pm), .second, .val (.int (lf_near pa pp pq pc pd pm)), .val (.long (lf_delta pa pp pq pc pd pm)), .second, .val (.ref pw_3), .val (.long (sb_v pa pp pd)), .second, .val (.int (sb_n pa pp pd)), .val (.int (sb_top pa pp pd)), .val (.ref tc_4), .val (.int (own_bad pq)), .val (.int (own_big (sb_n pa pp pd) (sb_top pa pp pd))), .val (.long (lf_val pa pp pq pc pd pm)), .second, .val (.long (lf_max pa pp pq pc pd pm)), .second, .unset, .unset] [(.long (0 : Int64))])) t
              have q : (lf_exp pa pp pq pc pd pm) = (0 : Int64) := by simp only [lf_exp, c12, c13, c14, c15, if_true, if_false, Bool.false_eq_true]; try rfl
              rw [q] at k
              clear q
              exact k
    refine sg11 _ ?_
    show Steps p.tables e below (T5.setTop (mkF m 806 #[.val (.long pa), .second, .val (.int pp), .val (.int pq), .val (.int pc), .val (.int pd), .val (.long pm), .second, .val (.int (lf_near pa pp pq pc pd pm)), .val (.long (lf_delta pa pp pq pc pd pm)), .second, .val (.ref pw_3), .val (.long (sb_v pa pp pd)), .second, .val (.int (sb_n pa pp pd)), .val (.int (sb_top pa pp pd)), .val (.ref tc_4), .val (.int (own_bad pq)), .val (.int (own_big (sb_n pa pp pd) (sb_top pa pp pd))), .val (.long (lf_val pa pp pq pc pd pm)), .second, .val (.long (lf_max pa pp pq pc pd pm)), .second, .unset, .unset] [(.long (lf_exp pa pp pq pc pd pm))])) _
    refine XT.lstore X5.here hx rfl (hb hby at_806) rfl (l' := #[.val (.long pa), .second, .val (.int pp), .val (.int pq), .val (.int pc), .val (.int pd), .val (.long pm), .second, .val (.int (lf_near pa pp pq pc pd pm)), .val (.long (lf_delta pa pp pq pc pd pm)), .second, .val (.ref pw_3), .val (.long (sb_v pa pp pd)), .second, .val (.int (sb_n pa pp pd)), .val (.int (sb_top pa pp pd)), .val (.ref tc_4), .val (.int (own_bad pq)), .val (.int (own_big (sb_n pa pp pd) (sb_top pa pp pd))), .val (.long (lf_val pa pp pq pc pd pm)), .second, .val (.long (lf_max pa pp pq pc pd pm)), .second, .val (.long (lf_exp pa pp pq pc pd pm)), .second]) rfl ?_
    show Steps p.tables e below (T5.setTop (mkF m 808 #[.val (.long pa), .second, .val (.int pp), .val (.int pq), .val (.int pc), .val (.int pd), .val (.long pm), .second, .val (.int (lf_near pa pp pq pc pd pm)), .val (.long (lf_delta pa pp pq pc pd pm)), .second, .val (.ref pw_3), .val (.long (sb_v pa pp pd)), .second, .val (.int (sb_n pa pp pd)), .val (.int (sb_top pa pp pd)), .val (.ref tc_4), .val (.int (own_bad pq)), .val (.int (own_big (sb_n pa pp pd) (sb_top pa pp pd))), .val (.long (lf_val pa pp pq pc pd pm)), .second, .val (.long (lf_max pa pp pq pc pd pm)), .second, .val (.long (lf_exp pa pp pq pc pd pm)), .second] [])) _
    refine st16 _ ?_
    show Steps p.tables e below (T16.setTop (mkF m 811 #[.val (.long pa), .second, .val (.int pp), .val (.int pq), .val (.int pc), .val (.int pd), .val (.long pm), .second, .val (.int (lf_near pa pp pq pc pd pm)), .val (.long (lf_delta pa pp pq pc pd pm)), .second, .val (.ref pw_3), .val (.long (sb_v pa pp pd)), .second, .val (.int (sb_n pa pp pd)), .val (.int (sb_top pa pp pd)), .val (.ref tc_4), .val (.int (own_bad pq)), .val (.int (own_big (sb_n pa pp pd) (sb_top pa pp pd))), .val (.long (lf_val pa pp pq pc pd pm)), .second, .val (.long (lf_max pa pp pq pc pd pm)), .second, .val (.long (lf_exp pa pp pq pc pd pm)), .second] [(.ref ad16)])) _
    refine XS.dup X16.here hx rfl (hb hby at_811) rfl rfl ?_
    show Steps p.tables e below (T16.setTop (mkF m 812 #[.val (.long pa), .second, .val (.int pp), .val (.int pq), .val (.int pc), .val (.int pd), .val (.long pm), .second, .val (.int (lf_near pa pp pq pc pd pm)), .val (.long (lf_delta pa pp pq pc pd pm)), .second, .val (.ref pw_3), .val (.long (sb_v pa pp pd)), .second, .val (.int (sb_n pa pp pd)), .val (.int (sb_top pa pp pd)), .val (.ref tc_4), .val (.int (own_bad pq)), .val (.int (own_big (sb_n pa pp pd) (sb_top pa pp pd))), .val (.long (lf_val pa pp pq pc pd pm)), .second, .val (.long (lf_max pa pp pq pc pd pm)), .second, .val (.long (lf_exp pa pp pq pc pd pm)), .second] [(.ref ad16), (.ref ad16)])) _
    refine XS.aload X16.here hx rfl (hb hby at_812) rfl rfl ?_
    show Steps p.tables e below (T16.setTop (mkF m 814 #[.val (.long pa), .second, .val (.int pp), .val (.int pq), .val (.int pc), .val (.int pd), .val (.long pm), .second, .val (.int (lf_near pa pp pq pc pd pm)), .val (.long (lf_delta pa pp pq pc pd pm)), .second, .val (.ref pw_3), .val (.long (sb_v pa pp pd)), .second, .val (.int (sb_n pa pp pd)), .val (.int (sb_top pa pp pd)), .val (.ref tc_4), .val (.int (own_bad pq)), .val (.int (own_big (sb_n pa pp pd) (sb_top pa pp pd))), .val (.long (lf_val pa pp pq pc pd pm)), .second, .val (.long (lf_max pa pp pq pc pd pm)), .second, .val (.long (lf_exp pa pp pq pc pd pm)), .second] [(.ref tc_4), (.ref ad16), (.ref ad16)])) _
    refine st20.trans ?_
    show Steps p.tables e below (T20.setTop (mkF m 817 #[.val (.long pa), .second, .val (.int pp), .val (.int pq), .val (.int pc), .val (.int pd), .val (.long pm), .second, .val (.int (lf_near pa pp pq pc pd pm)), .val (.long (lf_delta pa pp pq pc pd pm)), .second, .val (.ref pw_3), .val (.long (sb_v pa pp pd)), .second, .val (.int (sb_n pa pp pd)), .val (.int (sb_top pa pp pd)), .val (.ref tc_4), .val (.int (own_bad pq)), .val (.int (own_big (sb_n pa pp pd) (sb_top pa pp pd))), .val (.long (lf_val pa pp pq pc pd pm)), .second, .val (.long (lf_max pa pp pq pc pd pm)), .second, .val (.long (lf_exp pa pp pq pc pd pm)), .second] [(.ref ad16)])) _
    refine XT.lload X20.here hx rfl (hb hby at_817) rfl ?_
    show Steps p.tables e below (T20.setTop (mkF m 819 #[.val (.long pa), .second, .val (.int pp), .val (.int pq), .val (.int pc), .val (.int pd), .val (.long pm), .second, .val (.int (lf_near pa pp pq pc pd pm)), .val (.long (lf_delta pa pp pq pc pd pm)), .second, .val (.ref pw_3), .val (.long (sb_v pa pp pd)), .second, .val (.int (sb_n pa pp pd)), .val (.int (sb_top pa pp pd)), .val (.ref tc_4), .val (.int (own_bad pq)), .val (.int (own_big (sb_n pa pp pd) (sb_top pa pp pd))), .val (.long (lf_val pa pp pq pc pd pm)), .second, .val (.long (lf_max pa pp pq pc pd pm)), .second, .val (.long (lf_exp pa pp pq pc pd pm)), .second] [(.long (lf_max pa pp pq pc pd pm)), (.ref ad16)])) _
    refine st21 _ ?_
    show Steps p.tables e below (T21.setTop (mkF m 822 #[.val (.long pa), .second, .val (.int pp), .val (.int pq), .val (.int pc), .val (.int pd), .val (.long pm), .second, .val (.int (lf_near pa pp pq pc pd pm)), .val (.long (lf_delta pa pp pq pc pd pm)), .second, .val (.ref pw_3), .val (.long (sb_v pa pp pd)), .second, .val (.int (sb_n pa pp pd)), .val (.int (sb_top pa pp pd)), .val (.ref tc_4), .val (.int (own_bad pq)), .val (.int (own_big (sb_n pa pp pd) (sb_top pa pp pd))), .val (.long (lf_val pa pp pq pc pd pm)), .second, .val (.long (lf_max pa pp pq pc pd pm)), .second, .val (.long (lf_exp pa pp pq pc pd pm)), .second] [(.long (cnt_res (lf_max pa pp pq pc pd pm) (own_cs pq pc (own_ts (sb_v pa pp pd) (sb_top pa pp pd) (sb_n pa pp pd)))))])) _
    refine XT.lload X21.here hx rfl (hb hby at_822) rfl ?_
    show Steps p.tables e below (T21.setTop (mkF m 824 #[.val (.long pa), .second, .val (.int pp), .val (.int pq), .val (.int pc), .val (.int pd), .val (.long pm), .second, .val (.int (lf_near pa pp pq pc pd pm)), .val (.long (lf_delta pa pp pq pc pd pm)), .second, .val (.ref pw_3), .val (.long (sb_v pa pp pd)), .second, .val (.int (sb_n pa pp pd)), .val (.int (sb_top pa pp pd)), .val (.ref tc_4), .val (.int (own_bad pq)), .val (.int (own_big (sb_n pa pp pd) (sb_top pa pp pd))), .val (.long (lf_val pa pp pq pc pd pm)), .second, .val (.long (lf_max pa pp pq pc pd pm)), .second, .val (.long (lf_exp pa pp pq pc pd pm)), .second] [(.long (lf_exp pa pp pq pc pd pm)), (.long (cnt_res (lf_max pa pp pq pc pd pm) (own_cs pq pc (own_ts (sb_v pa pp pd) (sb_top pa pp pd) (sb_n pa pp pd)))))])) _
    refine XT.lcmp X21.here hx rfl (hb hby at_824) rfl ?_
    show Steps p.tables e below (T21.setTop (mkF m 825 #[.val (.long pa), .second, .val (.int pp), .val (.int pq), .val (.int pc), .val (.int pd), .val (.long pm), .second, .val (.int (lf_near pa pp pq pc pd pm)), .val (.long (lf_delta pa pp pq pc pd pm)), .second, .val (.ref pw_3), .val (.long (sb_v pa pp pd)), .second, .val (.int (sb_n pa pp pd)), .val (.int (sb_top pa pp pd)), .val (.ref tc_4), .val (.int (own_bad pq)), .val (.int (own_big (sb_n pa pp pd) (sb_top pa pp pd))), .val (.long (lf_val pa pp pq pc pd pm)), .second, .val (.long (lf_max pa pp pq pc pd pm)), .second, .val (.long (lf_exp pa pp pq pc pd pm)), .second] [(.int (XT.cmpL (cnt_res (lf_max pa pp pq pc pd pm) (own_cs pq pc (own_ts (sb_v pa pp pd) (sb_top pa pp pd) (sb_n pa pp pd)))) (lf_exp pa pp pq pc pd pm)))])) _
    refine XS.ifNo X21.here hx rfl (hb hby at_825) rfl (own_finF pa pp pq pc pd pm) ?_
    show Steps p.tables e below (T21.setTop (mkF m 828 #[.val (.long pa), .second, .val (.int pp), .val (.int pq), .val (.int pc), .val (.int pd), .val (.long pm), .second, .val (.int (lf_near pa pp pq pc pd pm)), .val (.long (lf_delta pa pp pq pc pd pm)), .second, .val (.ref pw_3), .val (.long (sb_v pa pp pd)), .second, .val (.int (sb_n pa pp pd)), .val (.int (sb_top pa pp pd)), .val (.ref tc_4), .val (.int (own_bad pq)), .val (.int (own_big (sb_n pa pp pd) (sb_top pa pp pd))), .val (.long (lf_val pa pp pq pc pd pm)), .second, .val (.long (lf_max pa pp pq pc pd pm)), .second, .val (.long (lf_exp pa pp pq pc pd pm)), .second] [])) _
    refine XS.iconst X21.here hx rfl (hb hby at_828) ?_
    show Steps p.tables e below (T21.setTop (mkF m 829 #[.val (.long pa), .second, .val (.int pp), .val (.int pq), .val (.int pc), .val (.int pd), .val (.long pm), .second, .val (.int (lf_near pa pp pq pc pd pm)), .val (.long (lf_delta pa pp pq pc pd pm)), .second, .val (.ref pw_3), .val (.long (sb_v pa pp pd)), .second, .val (.int (sb_n pa pp pd)), .val (.int (sb_top pa pp pd)), .val (.ref tc_4), .val (.int (own_bad pq)), .val (.int (own_big (sb_n pa pp pd) (sb_top pa pp pd))), .val (.long (lf_val pa pp pq pc pd pm)), .second, .val (.long (lf_max pa pp pq pc pd pm)), .second, .val (.long (lf_exp pa pp pq pc pd pm)), .second] [(.int (1 : Int32))])) _
    refine XS.goto X21.here hx rfl (pc0 := 829) (pc' := 833) rfl (hb hby at_829) (by decide) (by decide) ?_
    show Steps p.tables e below (T21.setTop (mkF m 833 #[.val (.long pa), .second, .val (.int pp), .val (.int pq), .val (.int pc), .val (.int pd), .val (.long pm), .second, .val (.int (lf_near pa pp pq pc pd pm)), .val (.long (lf_delta pa pp pq pc pd pm)), .second, .val (.ref pw_3), .val (.long (sb_v pa pp pd)), .second, .val (.int (sb_n pa pp pd)), .val (.int (sb_top pa pp pd)), .val (.ref tc_4), .val (.int (own_bad pq)), .val (.int (own_big (sb_n pa pp pd) (sb_top pa pp pd))), .val (.long (lf_val pa pp pq pc pd pm)), .second, .val (.long (lf_max pa pp pq pc pd pm)), .second, .val (.long (lf_exp pa pp pq pc pd pm)), .second] [(.int (1 : Int32))])) _
    exact retN X21 hx (t := .boolean) Bd.returns (by simp) (hb hby at_833) hr
  · show Q_lf Z pa pp pq pc pd pm G1 G3 h0 n0 _ T21.heap _
    exact ⟨rfl, Nn21⟩
theorem ef_lt (m : MethodId) (pa : Int64) (pp : Int32) (pq : Int32) (pc : Int32) (pd : Int32) (pm : Int64) : entryFrame m #[(.long pa), (.int pp), (.int pq), (.int pc), (.int pd), (.long pm)] maxLocals = (mkF m 0 #[.val (.long pa), .second, .val (.int pp), .val (.int pq), .val (.int pc), .val (.int pd), .val (.long pm), .second, .unset, .unset, .unset, .unset, .unset, .unset, .unset, .unset, .unset, .unset, .unset, .unset, .unset, .unset, .unset, .unset, .unset] []) := by first | (simp [entryFrame, mkF, argsToLocals, Value.category, maxLocals]; done) | rfl
def Q_lt (Z : State) (pa : Int64) (pp : Int32) (pq : Int32) (pc : Int32) (pd : Int32) (pm : Int64) (G1 : Int32) (G3 : Value) (h0 : Heap) (n0 : Nat) (v : Option Value) (h : Heap) (L : List Loc) : Prop := v = some (.int 1) ∧ Fr n0 L
set_option maxRecDepth 65536 in
set_option maxHeartbeats 40000000 in
theorem rm_lt (l : Launch) (Z : State) (a0 : Array Value) (hw : ∀ d ∈ tables_1, d.before a0 Z = true) (ws : List Jvm.Cond) (pa : Int64) (pp : Int32) (pq : Int32) (pc : Int32) (pd : Int32) (pm : Int64) (G1 : Int32) (G3 : Value) (h0 : Heap) (n0 : Nat) (Z0 : n0 ≤ h0.size) (k0_ : Old Z n0 h0) (O2 : Sta Z Z.heap "java/lang/String" "COMPACT_STRINGS" "Z" (.int G1)) (hz : ¬ G1 = 0) (O4 : Sta Z Z.heap "jdk/internal/util/Preconditions" "SIOOBE_FORMATTER" "Ljava/util/function/BiFunction;" G3) (rf : G3.isRef = true) (hq4 : ifCond.holds .eq (pq &&& (4 : Int32)) = false)  :
    MetFree l x (head1 (Jvm.Cond.code x code maxLocals ret :: ws) room_1) (fun a U => a = #[(.long pa), (.int pp), (.int pq), (.int pc), (.int pd), (.long pm)] ∧ Z.Warmed39 U.vm ∧ U.heap = h0) (fun _ _ _ _ _ => True) (fun _ U o U' => ∃ v L, o = .returned v ∧ Q_lt Z pa pp pq pc pd pm G1 G3 h0 n0 v U'.heap L ∧ FrameEnd U o U' L 16 192) := by
  refine MetFree.of_bodySF (plainFor_of_name pn_1) hisR ?_
  intro p e s m args below meth c s₁ Bd hml0 hP hK
  obtain ⟨rfl, hZ, hh⟩ := hP
  have hx := Bd.exec
  have hby := Bd.bytes
  have hml : c.maxLocals = 25 := hml0
  have hown : s.vm.findClass "com/example/kontrakt/kontrakt/input/NumeralsCountPinLaw" = some m.cls := findClass_of_methodNamed Bd.named
  have hnm := (name_of_methodNamed Bd.named Bd.method).1
  have X0 : Stand p l e room_1 s m #[(.long pa), (.int pp), (.int pq), (.int pc), (.int pd), (.long pm)] below meth c s₁ [] 0 0 := Stand.of_body Bd
  have e0 : s₁.heap = h0 := by rw [← hh, Bd.state]; rfl
  have N0 := Fr.nil n0
  have pre0 : ∀ t, Steps p.tables e below (s₁.setTop (mkF m 0 #[.val (.long pa), .second, .val (.int pp), .val (.int pq), .val (.int pc), .val (.int pd), .val (.long pm), .second, .unset, .unset, .unset, .unset, .unset, .unset, .unset, .unset, .unset, .unset, .unset, .unset, .unset, .unset, .unset, .unset, .unset] [])) t → Steps p.tables e below (s₁.setTop (entryFrame m #[(.long pa), (.int pp), (.int pq), (.int pc), (.int pd), (.long pm)] maxLocals)) t := fun t k => castTop (ef_lt m pa pp pq pc pd pm) k
  obtain ⟨_, _, ⟨T14, L14, k14, n14⟩, -, X14, ⟨Lc14, hQ14, l14, y14, z14⟩, st14⟩ := Jvm.LawKit.callS X0 hx (y := (⟨"java/lang/String", "valueOf", "(C)Ljava/lang/String;"⟩ : MethodName)) hown (mvT hZ (hw _ (List.mem_of_getElem? (i := 102) rfl))) (mvT hZ (hw _ (List.mem_of_getElem? (i := 103) rfl))) (mvT hZ (hw _ (List.mem_of_getElem? (i := 30) rfl))) (mvT hZ (hw _ (List.mem_of_getElem? (i := 104) rfl))) (by decide) (backOf (W := 0) (rm_vof l Z a0 hw [] (lt_sx pa pp pq pc pd pm) G1 (h0) n0 Z0  (O2.ext k0_.2) hz (own_hcT pc)) hZ (hw _ (List.mem_of_getElem? (i := 104) rfl)) (hw _ (List.mem_of_getElem? (i := 30) rfl)) (by decide) (by decide)) (g := (mkF m 127 #[.val (.long pa), .second, .val (.int pp), .val (.int pq), .val (.int pc), .val (.int pd), .val (.long pm), .second, .val (.int (lt_near pa pp pq pc pd pm)), .val (.long (lt_delta pa pp pq pc pd pm)), .second, .val (.int (lt_sx pa pp pq pc pd pm)), .val (.int (lt_isd pa pp pq pc pd pm)), .val (.long (lt_val pa pp pq pc pd pm)), .second, .val (.long (lt_max pa pp pq pc pd pm)), .second, .val (.long (lt_exp pa pp pq pc pd pm)), .second, .unset, .unset, .unset, .unset, .unset, .unset] [(.int (lt_sx pa pp pq pc pd pm))])) rfl (by rw [hml]; rfl) (argsL := [(.int (lt_sx pa pp pq pc pd pm))]) (rest := []) (lenOf pd_8 rfl) rfl (by show 2 * 0 + _ ≤ _; exact Nat.le_of_eq rfl) (hb hby at_127) (fun _ _ => ⟨rfl, e0, (by decide : 0 + 2 ≤ _), (by decide : 0 + 5 ≤ _)⟩)
  dsimp only [Pt.U, Pt.locs, Pt.cells, Pt.slots] at X14 l14 y14 z14 st14 hQ14
  rw [l14, y14, z14] at X14
  replace X14 : Stand _ _ _ _ _ _ _ _ _ _ _ _ 2 5 := X14
  obtain ⟨ad14, x14_0, x14_1, rfl, N14, K14, fr14, p14_0, p14_1, p14_2, p14_3⟩ := hQ14
  have Nn14 := Fr.app N0 N14
  have q15 : Old Z n0 T14.heap := (k0_.keep K14 all0)
  have Z14 : n0 ≤ T14.heap.size := Nat.le_trans Z0 K14.1
  have gn14 : n0 ≤ ad14 := Nat.le_trans Z0 fr14
  have V17 : Arv Z T14.heap x14_0 x14_1 .byte (1 : Int32) ((([(lt_sx pa pp pq pc pd pm)] : List Int32).map (fun c => c.toInt8.toInt32)).map Value.int) (.int (0 : Int32)) := (own_vof p14_3)
  obtain ⟨_, _, ⟨T16, L16, k16, n16⟩, -, X16, ⟨Lc16, hQ16, l16, y16, z16⟩, st16⟩ := Jvm.LawKit.callS X14 hx (y := (⟨"com/example/kontrakt/kontrakt/input/Numerals", "count", "(Ljava/lang/String;J)J"⟩ : MethodName)) hown (mvT hZ (hw _ (List.mem_of_getElem? (i := 57) rfl))) (mvT hZ (hw _ (List.mem_of_getElem? (i := 58) rfl))) (mvT hZ (hw _ (List.mem_of_getElem? (i := 59) rfl))) (mvT hZ (hw _ (List.mem_of_getElem? (i := 60) rfl))) (by decide) (backOf (W := 0) (rm_cnt l Z a0 hw [] ad14 (lt_max pa pp pq pc pd pm) x14_0 x14_1 ([(lt_sx pa pp pq pc pd pm)] : List Int32) (1 : Int32) G1 G3 (T14.heap) n0 Z14  p14_0 p14_1 p14_2 V17 (StrChars.Road.codOf (n := 1) (rfl : List.length _ = 1) (fun c hc => ((own_hpT pa pp pq pc pd pm) c hc).2)) (own_up _ (own_hpT pa pp pq pc pd pm)) (O2.ext q15.2) hz (O4.ext q15.2) rf (by show 0 < 1; decide) (by show 1 ≤ 20; decide)) hZ (hw _ (List.mem_of_getElem? (i := 60) rfl)) (hw _ (List.mem_of_getElem? (i := 59) rfl)) (by decide) (by decide)) (g := (mkF m 132 #[.val (.long pa), .second, .val (.int pp), .val (.int pq), .val (.int pc), .val (.int pd), .val (.long pm), .second, .val (.int (lt_near pa pp pq pc pd pm)), .val (.long (lt_delta pa pp pq pc pd pm)), .second, .val (.int (lt_sx pa pp pq pc pd pm)), .val (.int (lt_isd pa pp pq pc pd pm)), .val (.long (lt_val pa pp pq pc pd pm)), .second, .val (.long (lt_max pa pp pq pc pd pm)), .second, .val (.long (lt_exp pa pp pq pc pd pm)), .second, .unset, .unset, .unset, .unset, .unset, .unset] [(.long (lt_max pa pp pq pc pd pm)), (.ref ad14)])) rfl (by rw [hml]; rfl) (argsL := [(.ref ad14), (.long (lt_max pa pp pq pc pd pm))]) (rest := []) (lenOf pd_7 rfl) rfl (by show 2 * 0 + _ ≤ _; exact Nat.le_of_eq rfl) (hb hby at_132) (fun _ _ => ⟨rfl, rfl, (by decide : 2 + 0 ≤ _), (by decide : 5 + 0 ≤ _)⟩)
  dsimp only [Pt.U, Pt.locs, Pt.cells, Pt.slots] at X16 l16 y16 z16 st16 hQ16
  rw [l16, y16, z16] at X16
  replace X16 : Stand _ _ _ _ _ _ _ _ _ _ _ _ 2 5 := X16
  obtain ⟨vq16, N16, e16⟩ := hQ16
  rw [vq16] at st16
  have Nn16 := Fr.app Nn14 N16
  obtain ⟨fs, hr, hrun, hended, hW, hsame⟩ := X16.leave (v := some (.int (1 : Int32))) (fun h => by rw [Bd.returns] at h; cases h)
  refine ⟨_, _, pre0 _ ?_, hrun, hended, _, _, rfl, ?_, ⟨_, rfl⟩, hW, hsame.mono (Nat.le_of_ble_eq_true rfl) (Nat.le_of_ble_eq_true rfl)⟩
  · show Steps p.tables e below (s₁.setTop (mkF m 0 #[.val (.long pa), .second, .val (.int pp), .val (.int pq), .val (.int pc), .val (.int pd), .val (.long pm), .second, .unset, .unset, .unset, .unset, .unset, .unset, .unset, .unset, .unset, .unset, .unset, .unset, .unset, .unset, .unset, .unset, .unset] [])) _
    refine XS.iloadN X0.here hx rfl (hb hby at_0) rfl ?_
    show Steps p.tables e below (s₁.setTop (mkF m 1 #[.val (.long pa), .second, .val (.int pp), .val (.int pq), .val (.int pc), .val (.int pd), .val (.long pm), .second, .unset, .unset, .unset, .unset, .unset, .unset, .unset, .unset, .unset, .unset, .unset, .unset, .unset, .unset, .unset, .unset, .unset] [(.int pq)])) _
    refine XS.iconst X0.here hx rfl (hb hby at_1) ?_
    show Steps p.tables e below (s₁.setTop (mkF m 2 #[.val (.long pa), .second, .val (.int pp), .val (.int pq), .val (.int pc), .val (.int pd), .val (.long pm), .second, .unset, .unset, .unset, .unset, .unset, .unset, .unset, .unset, .unset, .unset, .unset, .unset, .unset, .unset, .unset, .unset, .unset] [(.int (2 : Int32)), (.int pq)])) _
    refine XS.iand X0.here hx rfl (hb hby at_2) rfl ?_
    show Steps p.tables e below (s₁.setTop (mkF m 3 #[.val (.long pa), .second, .val (.int pp), .val (.int pq), .val (.int pc), .val (.int pd), .val (.long pm), .second, .unset, .unset, .unset, .unset, .unset, .unset, .unset, .unset, .unset, .unset, .unset, .unset, .unset, .unset, .unset, .unset, .unset] [(.int (pq &&& (2 : Int32)))])) _
    have sg1 : ∀ t, Steps p.tables e below (s₁.setTop (mkF m 11 #[.val (.long pa), .second, .val (.int pp), .val (.int pq), .val (.int pc), .val (.int pd), .val (.long pm), .second, .unset, .unset, .unset, .unset, .unset, .unset, .unset, .unset, .unset, .unset, .unset, .unset, .unset, .unset, .unset, .unset, .unset] [(.int (lt_near pa pp pq pc pd pm))])) t → Steps p.tables e below (s₁.setTop (mkF m 3 #[.val (.long pa), .second, .val (.int pp), .val (.int pq), .val (.int pc), .val (.int pd), .val (.long pm), .second, .unset, .unset, .unset, .unset, .unset, .unset, .unset, .unset, .unset, .unset, .unset, .unset, .unset, .unset, .unset, .unset, .unset] [(.int (pq &&& (2 : Int32)))])) t := by
      intro t k
      by_cases c2 : (ifCond.holds .eq (pq &&& (2 : Int32))) = true
      · refine XS.ifYes X0.here hx rfl (pc0 := 3) (pc' := 10) rfl (hb hby at_3) rfl c2 (by decide) (by decide) ?_
        show Steps p.tables e below (s₁.setTop (mkF m 10 #[.val (.long pa), .second, .val (.int pp), .val (.int pq), .val (.int pc), .val (.int pd), .val (.long pm), .second, .unset, .unset, .unset, .unset, .unset, .unset, .unset, .unset, .unset, .unset, .unset, .unset, .unset, .unset, .unset, .unset, .unset] [])) t
        refine XS.iconst X0.here hx rfl (hb hby at_10) ?_
        show Steps p.tables e below (s₁.setTop (mkF m 11 #[.val (.long pa), .second, .val (.int pp), .val (.int pq), .val (.int pc), .val (.int pd), .val (.long pm), .second, .unset, .unset, .unset, .unset, .unset, .unset, .unset, .unset, .unset, .unset, .unset, .unset, .unset, .unset, .unset, .unset, .unset] [(.int (0 : Int32))])) t
        have q : (lt_near pa pp pq pc pd pm) = (0 : Int32) := by simp only [lt_near, c2, if_true, if_false, Bool.false_eq_true]; try rfl
        rw [q] at k
        clear q
        exact k
      · refine XS.ifNo X0.here hx rfl (hb hby at_3) rfl (Bool.eq_false_iff.mpr c2) ?_
        show Steps p.tables e below (s₁.setTop (mkF m 6 #[.val (.long pa), .second, .val (.int pp), .val (.int pq), .val (.int pc), .val (.int pd), .val (.long pm), .second, .unset, .unset, .unset, .unset, .unset, .unset, .unset, .unset, .unset, .unset, .unset, .unset, .unset, .unset, .unset, .unset, .unset] [])) t
        refine XS.iconst X0.here hx rfl (hb hby at_6) ?_
        show Steps p.tables e below (s₁.setTop (mkF m 7 #[.val (.long pa), .second, .val (.int pp), .val (.int pq), .val (.int pc), .val (.int pd), .val (.long pm), .second, .unset, .unset, .unset, .unset, .unset, .unset, .unset, .unset, .unset, .unset, .unset, .unset, .unset, .unset, .unset, .unset, .unset] [(.int (1 : Int32))])) t
        refine XS.goto X0.here hx rfl (pc0 := 7) (pc' := 11) rfl (hb hby at_7) (by decide) (by decide) ?_
        show Steps p.tables e below (s₁.setTop (mkF m 11 #[.val (.long pa), .second, .val (.int pp), .val (.int pq), .val (.int pc), .val (.int pd), .val (.long pm), .second, .unset, .unset, .unset, .unset, .unset, .unset, .unset, .unset, .unset, .unset, .unset, .unset, .unset, .unset, .unset, .unset, .unset] [(.int (1 : Int32))])) t
        have q : (lt_near pa pp pq pc pd pm) = (1 : Int32) := by simp only [lt_near, c2, if_true, if_false, Bool.false_eq_true]; try rfl
        rw [q] at k
        clear q
        exact k
    refine sg1 _ ?_
    show Steps p.tables e below (s₁.setTop (mkF m 11 #[.val (.long pa), .second, .val (.int pp), .val (.int pq), .val (.int pc), .val (.int pd), .val (.long pm), .second, .unset, .unset, .unset, .unset, .unset, .unset, .unset, .unset, .unset, .unset, .unset, .unset, .unset, .unset, .unset, .unset, .unset] [(.int (lt_near pa pp pq pc pd pm))])) _
    refine XS.istore X0.here hx rfl (hb hby at_11) rfl (l' := #[.val (.long pa), .second, .val (.int pp), .val (.int pq), .val (.int pc), .val (.int pd), .val (.long pm), .second, .val (.int (lt_near pa pp pq pc pd pm)), .unset, .unset, .unset, .unset, .unset, .unset, .unset, .unset, .unset, .unset, .unset, .unset, .unset, .unset, .unset, .unset]) rfl ?_
    show Steps p.tables e below (s₁.setTop (mkF m 13 #[.val (.long pa), .second, .val (.int pp), .val (.int pq), .val (.int pc), .val (.int pd), .val (.long pm), .second, .val (.int (lt_near pa pp pq pc pd pm)), .unset, .unset, .unset, .unset, .unset, .unset, .unset, .unset, .unset, .unset, .unset, .unset, .unset, .unset, .unset, .unset] [])) _
    refine XT.lload X0.here hx rfl (hb hby at_13) rfl ?_
    show Steps p.tables e below (s₁.setTop (mkF m 15 #[.val (.long pa), .second, .val (.int pp), .val (.int pq), .val (.int pc), .val (.int pd), .val (.long pm), .second, .val (.int (lt_near pa pp pq pc pd pm)), .unset, .unset, .unset, .unset, .unset, .unset, .unset, .unset, .unset, .unset, .unset, .unset, .unset, .unset, .unset, .unset] [(.long pm)])) _
    refine X0.ldc2J hx hown (mvT hZ (hw _ (List.mem_of_getElem? (i := 0) rfl))) (g := (mkF m 15 #[.val (.long pa), .second, .val (.int pp), .val (.int pq), .val (.int pc), .val (.int pd), .val (.long pm), .second, .val (.int (lt_near pa pp pq pc pd pm)), .unset, .unset, .unset, .unset, .unset, .unset, .unset, .unset, .unset, .unset, .unset, .unset, .unset, .unset, .unset, .unset] [(.long pm)])) rfl (hb hby at_15) ?_
    show Steps p.tables e below (s₁.setTop (mkF m 18 #[.val (.long pa), .second, .val (.int pp), .val (.int pq), .val (.int pc), .val (.int pd), .val (.long pm), .second, .val (.int (lt_near pa pp pq pc pd pm)), .unset, .unset, .unset, .unset, .unset, .unset, .unset, .unset, .unset, .unset, .unset, .unset, .unset, .unset, .unset, .unset] [(.long (3 : Int64)), (.long pm)])) _
    refine XT.land X0.here hx rfl (hb hby at_18) rfl ?_
    show Steps p.tables e below (s₁.setTop (mkF m 19 #[.val (.long pa), .second, .val (.int pp), .val (.int pq), .val (.int pc), .val (.int pd), .val (.long pm), .second, .val (.int (lt_near pa pp pq pc pd pm)), .unset, .unset, .unset, .unset, .unset, .unset, .unset, .unset, .unset, .unset, .unset, .unset, .unset, .unset, .unset, .unset] [(.long (pm &&& (3 : Int64)))])) _
    refine XT.l2i X0.here hx rfl (hb hby at_19) rfl ?_
    show Steps p.tables e below (s₁.setTop (mkF m 20 #[.val (.long pa), .second, .val (.int pp), .val (.int pq), .val (.int pc), .val (.int pd), .val (.long pm), .second, .val (.int (lt_near pa pp pq pc pd pm)), .unset, .unset, .unset, .unset, .unset, .unset, .unset, .unset, .unset, .unset, .unset, .unset, .unset, .unset, .unset, .unset] [(.int (Int64.toInt32 (pm &&& (3 : Int64))))])) _
    refine XT.i2l X0.here hx rfl (hb hby at_20) rfl ?_
    show Steps p.tables e below (s₁.setTop (mkF m 21 #[.val (.long pa), .second, .val (.int pp), .val (.int pq), .val (.int pc), .val (.int pd), .val (.long pm), .second, .val (.int (lt_near pa pp pq pc pd pm)), .unset, .unset, .unset, .unset, .unset, .unset, .unset, .unset, .unset, .unset, .unset, .unset, .unset, .unset, .unset, .unset] [(.long (Int32.toInt64 (Int64.toInt32 (pm &&& (3 : Int64)))))])) _
    refine X0.ldc2J hx hown (mvT hZ (hw _ (List.mem_of_getElem? (i := 1) rfl))) (g := (mkF m 21 #[.val (.long pa), .second, .val (.int pp), .val (.int pq), .val (.int pc), .val (.int pd), .val (.long pm), .second, .val (.int (lt_near pa pp pq pc pd pm)), .unset, .unset, .unset, .unset, .unset, .unset, .unset, .unset, .unset, .unset, .unset, .unset, .unset, .unset, .unset, .unset] [(.long (Int32.toInt64 (Int64.toInt32 (pm &&& (3 : Int64)))))])) rfl (hb hby at_21) ?_
    show Steps p.tables e below (s₁.setTop (mkF m 24 #[.val (.long pa), .second, .val (.int pp), .val (.int pq), .val (.int pc), .val (.int pd), .val (.long pm), .second, .val (.int (lt_near pa pp pq pc pd pm)), .unset, .unset, .unset, .unset, .unset, .unset, .unset, .unset, .unset, .unset, .unset, .unset, .unset, .unset, .unset, .unset] [(.long (2 : Int64)), (.long (Int32.toInt64 (Int64.toInt32 (pm &&& (3 : Int64)))))])) _
    refine XT.lsub X0.here hx rfl (hb hby at_24) rfl ?_
    show Steps p.tables e below (s₁.setTop (mkF m 25 #[.val (.long pa), .second, .val (.int pp), .val (.int pq), .val (.int pc), .val (.int pd), .val (.long pm), .second, .val (.int (lt_near pa pp pq pc pd pm)), .unset, .unset, .unset, .unset, .unset, .unset, .unset, .unset, .unset, .unset, .unset, .unset, .unset, .unset, .unset, .unset] [(.long ((Int32.toInt64 (Int64.toInt32 (pm &&& (3 : Int64)))) - (2 : Int64)))])) _
    refine XT.lstore X0.here hx rfl (hb hby at_25) rfl (l' := #[.val (.long pa), .second, .val (.int pp), .val (.int pq), .val (.int pc), .val (.int pd), .val (.long pm), .second, .val (.int (lt_near pa pp pq pc pd pm)), .val (.long (lt_delta pa pp pq pc pd pm)), .second, .unset, .unset, .unset, .unset, .unset, .unset, .unset, .unset, .unset, .unset, .unset, .unset, .unset, .unset]) rfl ?_
    show Steps p.tables e below (s₁.setTop (mkF m 27 #[.val (.long pa), .second, .val (.int pp), .val (.int pq), .val (.int pc), .val (.int pd), .val (.long pm), .second, .val (.int (lt_near pa pp pq pc pd pm)), .val (.long (lt_delta pa pp pq pc pd pm)), .second, .unset, .unset, .unset, .unset, .unset, .unset, .unset, .unset, .unset, .unset, .unset, .unset, .unset, .unset] [])) _
    refine XS.iloadN X0.here hx rfl (hb hby at_27) rfl ?_
    show Steps p.tables e below (s₁.setTop (mkF m 28 #[.val (.long pa), .second, .val (.int pp), .val (.int pq), .val (.int pc), .val (.int pd), .val (.long pm), .second, .val (.int (lt_near pa pp pq pc pd pm)), .val (.long (lt_delta pa pp pq pc pd pm)), .second, .unset, .unset, .unset, .unset, .unset, .unset, .unset, .unset, .unset, .unset, .unset, .unset, .unset, .unset] [(.int pq)])) _
    refine XS.iconst X0.here hx rfl (hb hby at_28) ?_
    show Steps p.tables e below (s₁.setTop (mkF m 29 #[.val (.long pa), .second, .val (.int pp), .val (.int pq), .val (.int pc), .val (.int pd), .val (.long pm), .second, .val (.int (lt_near pa pp pq pc pd pm)), .val (.long (lt_delta pa pp pq pc pd pm)), .second, .unset, .unset, .unset, .unset, .unset, .unset, .unset, .unset, .unset, .unset, .unset, .unset, .unset, .unset] [(.int (4 : Int32)), (.int pq)])) _
    refine XS.iand X0.here hx rfl (hb hby at_29) rfl ?_
    show Steps p.tables e below (s₁.setTop (mkF m 30 #[.val (.long pa), .second, .val (.int pp), .val (.int pq), .val (.int pc), .val (.int pd), .val (.long pm), .second, .val (.int (lt_near pa pp pq pc pd pm)), .val (.long (lt_delta pa pp pq pc pd pm)), .second, .unset, .unset, .unset, .unset, .unset, .unset, .unset, .unset, .unset, .unset, .unset, .unset, .unset, .unset] [(.int (pq &&& (4 : Int32)))])) _
    refine XS.ifNo X0.here hx rfl (hb hby at_30) rfl hq4 ?_
    show Steps p.tables e below (s₁.setTop (mkF m 33 #[.val (.long pa), .second, .val (.int pp), .val (.int pq), .val (.int pc), .val (.int pd), .val (.long pm), .second, .val (.int (lt_near pa pp pq pc pd pm)), .val (.long (lt_delta pa pp pq pc pd pm)), .second, .unset, .unset, .unset, .unset, .unset, .unset, .unset, .unset, .unset, .unset, .unset, .unset, .unset, .unset] [])) _
    refine XS.iload X0.here hx rfl (hb hby at_33) rfl ?_
    show Steps p.tables e below (s₁.setTop (mkF m 35 #[.val (.long pa), .second, .val (.int pp), .val (.int pq), .val (.int pc), .val (.int pd), .val (.long pm), .second, .val (.int (lt_near pa pp pq pc pd pm)), .val (.long (lt_delta pa pp pq pc pd pm)), .second, .unset, .unset, .unset, .unset, .unset, .unset, .unset, .unset, .unset, .unset, .unset, .unset, .unset, .unset] [(.int pc)])) _
    refine XS.sipush X0.here hx rfl (hb hby at_35) ?_
    show Steps p.tables e below (s₁.setTop (mkF m 38 #[.val (.long pa), .second, .val (.int pp), .val (.int pq), .val (.int pc), .val (.int pd), .val (.long pm), .second, .val (.int (lt_near pa pp pq pc pd pm)), .val (.long (lt_delta pa pp pq pc pd pm)), .second, .unset, .unset, .unset, .unset, .unset, .unset, .unset, .unset, .unset, .unset, .unset, .unset, .unset, .unset] [(.int (255 : Int32)), (.int pc)])) _
    refine XS.iand X0.here hx rfl (hb hby at_38) rfl ?_
    show Steps p.tables e below (s₁.setTop (mkF m 39 #[.val (.long pa), .second, .val (.int pp), .val (.int pq), .val (.int pc), .val (.int pd), .val (.long pm), .second, .val (.int (lt_near pa pp pq pc pd pm)), .val (.long (lt_delta pa pp pq pc pd pm)), .second, .unset, .unset, .unset, .unset, .unset, .unset, .unset, .unset, .unset, .unset, .unset, .unset, .unset, .unset] [(.int (pc &&& (255 : Int32)))])) _
    refine XT.i2c X0.here hx rfl (hb hby at_39) rfl ?_
    show Steps p.tables e below (s₁.setTop (mkF m 40 #[.val (.long pa), .second, .val (.int pp), .val (.int pq), .val (.int pc), .val (.int pd), .val (.long pm), .second, .val (.int (lt_near pa pp pq pc pd pm)), .val (.long (lt_delta pa pp pq pc pd pm)), .second, .unset, .unset, .unset, .unset, .unset, .unset, .unset, .unset, .unset, .unset, .unset, .unset, .unset, .unset] [(.int ((Int32.toUInt32 (pc &&& (255 : Int32))).toUInt16.toUInt32.toInt32))])) _
    refine XS.istore X0.here hx rfl (hb hby at_40) rfl (l' := #[.val (.long pa), .second, .val (.int pp), .val (.int pq), .val (.int pc), .val (.int pd), .val (.long pm), .second, .val (.int (lt_near pa pp pq pc pd pm)), .val (.long (lt_delta pa pp pq pc pd pm)), .second, .val (.int (lt_sx pa pp pq pc pd pm)), .unset, .unset, .unset, .unset, .unset, .unset, .unset, .unset, .unset, .unset, .unset, .unset, .unset]) rfl ?_
    show Steps p.tables e below (s₁.setTop (mkF m 42 #[.val (.long pa), .second, .val (.int pp), .val (.int pq), .val (.int pc), .val (.int pd), .val (.long pm), .second, .val (.int (lt_near pa pp pq pc pd pm)), .val (.long (lt_delta pa pp pq pc pd pm)), .second, .val (.int (lt_sx pa pp pq pc pd pm)), .unset, .unset, .unset, .unset, .unset, .unset, .unset, .unset, .unset, .unset, .unset, .unset, .unset] [])) _
    refine XS.iload X0.here hx rfl (hb hby at_42) rfl ?_
    show Steps p.tables e below (s₁.setTop (mkF m 44 #[.val (.long pa), .second, .val (.int pp), .val (.int pq), .val (.int pc), .val (.int pd), .val (.long pm), .second, .val (.int (lt_near pa pp pq pc pd pm)), .val (.long (lt_delta pa pp pq pc pd pm)), .second, .val (.int (lt_sx pa pp pq pc pd pm)), .unset, .unset, .unset, .unset, .unset, .unset, .unset, .unset, .unset, .unset, .unset, .unset, .unset] [(.int (lt_sx pa pp pq pc pd pm))])) _
    refine XS.bipush X0.here hx rfl (hb hby at_44) ?_
    show Steps p.tables e below (s₁.setTop (mkF m 46 #[.val (.long pa), .second, .val (.int pp), .val (.int pq), .val (.int pc), .val (.int pd), .val (.long pm), .second, .val (.int (lt_near pa pp pq pc pd pm)), .val (.long (lt_delta pa pp pq pc pd pm)), .second, .val (.int (lt_sx pa pp pq pc pd pm)), .unset, .unset, .unset, .unset, .unset, .unset, .unset, .unset, .unset, .unset, .unset, .unset, .unset] [(.int (48 : Int32)), (.int (lt_sx pa pp pq pc pd pm))])) _
    have sg3 : ∀ t, Steps p.tables e below (s₁.setTop (mkF m 61 #[.val (.long pa), .second, .val (.int pp), .val (.int pq), .val (.int pc), .val (.int pd), .val (.long pm), .second, .val (.int (lt_near pa pp pq pc pd pm)), .val (.long (lt_delta pa pp pq pc pd pm)), .second, .val (.int (lt_sx pa pp pq pc pd pm)), .unset, .unset, .unset, .unset, .unset, .unset, .unset, .unset, .unset, .unset, .unset, .unset, .unset] [(.int (lt_isd pa pp pq pc pd pm))])) t → Steps p.tables e below (s₁.setTop (mkF m 46 #[.val (.long pa), .second, .val (.int pp), .val (.int pq), .val (.int pc), .val (.int pd), .val (.long pm), .second, .val (.int (lt_near pa pp pq pc pd pm)), .val (.long (lt_delta pa pp pq pc pd pm)), .second, .val (.int (lt_sx pa pp pq pc pd pm)), .unset, .unset, .unset, .unset, .unset, .unset, .unset, .unset, .unset, .unset, .unset, .unset, .unset] [(.int (48 : Int32)), (.int (lt_sx pa pp pq pc pd pm))])) t := by
      intro t k
      by_cases c4 : (if_icmp.holds .lt (lt_sx pa pp pq pc pd pm) (48 : Int32)) = true
      · refine XS.icmpYes X0.here hx rfl (pc0 := 46) (pc' := 60) rfl (hb hby at_46) rfl c4 (by decide) (by decide) ?_
        show Steps p.tables e below (s₁.setTop (mkF m 60 #[.val (.long pa), .second, .val (.int pp), .val (.int pq), .val (.int pc), .val (.int pd), .val (.long pm), .second, .val (.int (lt_near pa pp pq pc pd pm)), .val (.long (lt_delta pa pp pq pc pd pm)), .second, .val (.int (lt_sx pa pp pq pc pd pm)), .unset, .unset, .unset, .unset, .unset, .unset, .unset, .unset, .unset, .unset, .unset, .unset, .unset] [])) t
        refine XS.iconst X0.here hx rfl (hb hby at_60) ?_
        show Steps p.tables e below (s₁.setTop (mkF m 61 #[.val (.long pa), .second, .val (.int pp), .val (.int pq), .val (.int pc), .val (.int pd), .val (.long pm), .second, .val (.int (lt_near pa pp pq pc pd pm)), .val (.long (lt_delta pa pp pq pc pd pm)), .second, .val (.int (lt_sx pa pp pq pc pd pm)), .unset, .unset, .unset, .unset, .unset, .unset, .unset, .unset, .unset, .unset, .unset, .unset, .unset] [(.int (0 : Int32))])) t
        have q : (lt_isd pa pp pq pc pd pm) = (0 : Int32) := by simp only [lt_isd, c4, if_true, if_false, Bool.false_eq_true]; try rfl
        rw [q] at k
        clear q
        exact k
      · refine XS.icmpNo X0.here hx rfl (hb hby at_46) rfl (Bool.eq_false_iff.mpr c4) ?_
        show Steps p.tables e below (s₁.setTop (mkF m 49 #[.val (.long pa), .second, .val (.int pp), .val (.int pq), .val (.int pc), .val (.int pd), .val (.long pm), .second, .val (.int (lt_near pa pp pq pc pd pm)), .val (.long (lt_delta pa pp pq pc pd pm)), .second, .val (.int (lt_sx pa pp pq pc pd pm)), .unset, .unset, .unset, .unset, .unset, .unset, .unset, .unset, .unset, .unset, .unset, .unset, .unset] [])) t
        refine XS.iload X0.here hx rfl (hb hby at_49) rfl ?_
        show Steps p.tables e below (s₁.setTop (mkF m 51 #[.val (.long pa), .second, .val (.int pp), .val (.int pq), .val (.int pc), .val (.int pd), .val (.long pm), .second, .val (.int (lt_near pa pp pq pc pd pm)), .val (.long (lt_delta pa pp pq pc pd pm)), .second, .val (.int (lt_sx pa pp pq pc pd pm)), .unset, .unset, .unset, .unset, .unset, .unset, .unset, .unset, .unset, .unset, .unset, .unset, .unset] [(.int (lt_sx pa pp pq pc pd pm))])) t
        refine XS.bipush X0.here hx rfl (hb hby at_51) ?_
        show Steps p.tables e below (s₁.setTop (mkF m 53 #[.val (.long pa), .second, .val (.int pp), .val (.int pq), .val (.int pc), .val (.int pd), .val (.long pm), .second, .val (.int (lt_near pa pp pq pc pd pm)), .val (.long (lt_delta pa pp pq pc pd pm)), .second, .val (.int (lt_sx pa pp pq pc pd pm)), .unset, .unset, .unset, .unset, .unset, .unset, .unset, .unset, .unset, .unset, .unset, .unset, .unset] [(.int (57 : Int32)), (.int (lt_sx pa pp pq pc pd pm))])) t
        by_cases c5 : (if_icmp.holds .gt (lt_sx pa pp pq pc pd pm) (57 : Int32)) = true
        · refine XS.icmpYes X0.here hx rfl (pc0 := 53) (pc' := 60) rfl (hb hby at_53) rfl c5 (by decide) (by decide) ?_
          show Steps p.tables e below (s₁.setTop (mkF m 60 #[.val (.long pa), .second, .val (.int pp), .val (.int pq), .val (.int pc), .val (.int pd), .val (.long pm), .second, .val (.int (lt_near pa pp pq pc pd pm)), .val (.long (lt_delta pa pp pq pc pd pm)), .second, .val (.int (lt_sx pa pp pq pc pd pm)), .unset, .unset, .unset, .unset, .unset, .unset, .unset, .unset, .unset, .unset, .unset, .unset, .unset] [])) t
          refine XS.iconst X0.here hx rfl (hb hby at_60) ?_
          show Steps p.tables e below (s₁.setTop (mkF m 61 #[.val (.long pa), .second, .val (.int pp), .val (.int pq), .val (.int pc), .val (.int pd), .val (.long pm), .second, .val (.int (lt_near pa pp pq pc pd pm)), .val (.long (lt_delta pa pp pq pc pd pm)), .second, .val (.int (lt_sx pa pp pq pc pd pm)), .unset, .unset, .unset, .unset, .unset, .unset, .unset, .unset, .unset, .unset, .unset, .unset, .unset] [(.int (0 : Int32))])) t
          have q : (lt_isd pa pp pq pc pd pm) = (0 : Int32) := by simp only [lt_isd, c4, c5, if_true, if_false, Bool.false_eq_true]; try rfl
          rw [q] at k
          clear q
          exact k
        · refine XS.icmpNo X0.here hx rfl (hb hby at_53) rfl (Bool.eq_false_iff.mpr c5) ?_
          show Steps p.tables e below (s₁.setTop (mkF m 56 #[.val (.long pa), .second, .val (.int pp), .val (.int pq), .val (.int pc), .val (.int pd), .val (.long pm), .second, .val (.int (lt_near pa pp pq pc pd pm)), .val (.long (lt_delta pa pp pq pc pd pm)), .second, .val (.int (lt_sx pa pp pq pc pd pm)), .unset, .unset, .unset, .unset, .unset, .unset, .unset, .unset, .unset, .unset, .unset, .unset, .unset] [])) t
          refine XS.iconst X0.here hx rfl (hb hby at_56) ?_
          show Steps p.tables e below (s₁.setTop (mkF m 57 #[.val (.long pa), .second, .val (.int pp), .val (.int pq), .val (.int pc), .val (.int pd), .val (.long pm), .second, .val (.int (lt_near pa pp pq pc pd pm)), .val (.long (lt_delta pa pp pq pc pd pm)), .second, .val (.int (lt_sx pa pp pq pc pd pm)), .unset, .unset, .unset, .unset, .unset, .unset, .unset, .unset, .unset, .unset, .unset, .unset, .unset] [(.int (1 : Int32))])) t
          refine XS.goto X0.here hx rfl (pc0 := 57) (pc' := 61) rfl (hb hby at_57) (by decide) (by decide) ?_
          show Steps p.tables e below (s₁.setTop (mkF m 61 #[.val (.long pa), .second, .val (.int pp), .val (.int pq), .val (.int pc), .val (.int pd), .val (.long pm), .second, .val (.int (lt_near pa pp pq pc pd pm)), .val (.long (lt_delta pa pp pq pc pd pm)), .second, .val (.int (lt_sx pa pp pq pc pd pm)), .unset, .unset, .unset, .unset, .unset, .unset, .unset, .unset, .unset, .unset, .unset, .unset, .unset] [(.int (1 : Int32))])) t
          have q : (lt_isd pa pp pq pc pd pm) = (1 : Int32) := by simp only [lt_isd, c4, c5, if_true, if_false, Bool.false_eq_true]; try rfl
          rw [q] at k
          clear q
          exact k
    refine sg3 _ ?_
    show Steps p.tables e below (s₁.setTop (mkF m 61 #[.val (.long pa), .second, .val (.int pp), .val (.int pq), .val (.int pc), .val (.int pd), .val (.long pm), .second, .val (.int (lt_near pa pp pq pc pd pm)), .val (.long (lt_delta pa pp pq pc pd pm)), .second, .val (.int (lt_sx pa pp pq pc pd pm)), .unset, .unset, .unset, .unset, .unset, .unset, .unset, .unset, .unset, .unset, .unset, .unset, .unset] [(.int (lt_isd pa pp pq pc pd pm))])) _
    refine XS.istore X0.here hx rfl (hb hby at_61) rfl (l' := #[.val (.long pa), .second, .val (.int pp), .val (.int pq), .val (.int pc), .val (.int pd), .val (.long pm), .second, .val (.int (lt_near pa pp pq pc pd pm)), .val (.long (lt_delta pa pp pq pc pd pm)), .second, .val (.int (lt_sx pa pp pq pc pd pm)), .val (.int (lt_isd pa pp pq pc pd pm)), .unset, .unset, .unset, .unset, .unset, .unset, .unset, .unset, .unset, .unset, .unset, .unset]) rfl ?_
    show Steps p.tables e below (s₁.setTop (mkF m 63 #[.val (.long pa), .second, .val (.int pp), .val (.int pq), .val (.int pc), .val (.int pd), .val (.long pm), .second, .val (.int (lt_near pa pp pq pc pd pm)), .val (.long (lt_delta pa pp pq pc pd pm)), .second, .val (.int (lt_sx pa pp pq pc pd pm)), .val (.int (lt_isd pa pp pq pc pd pm)), .unset, .unset, .unset, .unset, .unset, .unset, .unset, .unset, .unset, .unset, .unset, .unset] [])) _
    refine XS.iload X0.here hx rfl (hb hby at_63) rfl ?_
    show Steps p.tables e below (s₁.setTop (mkF m 65 #[.val (.long pa), .second, .val (.int pp), .val (.int pq), .val (.int pc), .val (.int pd), .val (.long pm), .second, .val (.int (lt_near pa pp pq pc pd pm)), .val (.long (lt_delta pa pp pq pc pd pm)), .second, .val (.int (lt_sx pa pp pq pc pd pm)), .val (.int (lt_isd pa pp pq pc pd pm)), .unset, .unset, .unset, .unset, .unset, .unset, .unset, .unset, .unset, .unset, .unset, .unset] [(.int (lt_isd pa pp pq pc pd pm))])) _
    have sg6 : ∀ t, Steps p.tables e below (s₁.setTop (mkF m 78 #[.val (.long pa), .second, .val (.int pp), .val (.int pq), .val (.int pc), .val (.int pd), .val (.long pm), .second, .val (.int (lt_near pa pp pq pc pd pm)), .val (.long (lt_delta pa pp pq pc pd pm)), .second, .val (.int (lt_sx pa pp pq pc pd pm)), .val (.int (lt_isd pa pp pq pc pd pm)), .unset, .unset, .unset, .unset, .unset, .unset, .unset, .unset, .unset, .unset, .unset, .unset] [(.long (lt_val pa pp pq pc pd pm))])) t → Steps p.tables e below (s₁.setTop (mkF m 65 #[.val (.long pa), .second, .val (.int pp), .val (.int pq), .val (.int pc), .val (.int pd), .val (.long pm), .second, .val (.int (lt_near pa pp pq pc pd pm)), .val (.long (lt_delta pa pp pq pc pd pm)), .second, .val (.int (lt_sx pa pp pq pc pd pm)), .val (.int (lt_isd pa pp pq pc pd pm)), .unset, .unset, .unset, .unset, .unset, .unset, .unset, .unset, .unset, .unset, .unset, .unset] [(.int (lt_isd pa pp pq pc pd pm))])) t := by
      intro t k
      by_cases c7 : (ifCond.holds .eq (lt_isd pa pp pq pc pd pm)) = true
      · refine XS.ifYes X0.here hx rfl (pc0 := 65) (pc' := 77) rfl (hb hby at_65) rfl c7 (by decide) (by decide) ?_
        show Steps p.tables e below (s₁.setTop (mkF m 77 #[.val (.long pa), .second, .val (.int pp), .val (.int pq), .val (.int pc), .val (.int pd), .val (.long pm), .second, .val (.int (lt_near pa pp pq pc pd pm)), .val (.long (lt_delta pa pp pq pc pd pm)), .second, .val (.int (lt_sx pa pp pq pc pd pm)), .val (.int (lt_isd pa pp pq pc pd pm)), .unset, .unset, .unset, .unset, .unset, .unset, .unset, .unset, .unset, .unset, .unset, .unset] [])) t
        refine XT.lconst X0.here hx rfl (hb hby at_77) ?_
        show Steps p.tables e below (s₁.setTop (mkF m 78 #[.val (.long pa), .second, .val (.int pp), .val (.int pq), .val (.int pc), .val (.int pd), .val (.long pm), .second, .val (.int (lt_near pa pp pq pc pd pm)), .val (.long (lt_delta pa pp pq pc pd pm)), .second, .val (.int (lt_sx pa pp pq pc pd pm)), .val (.int (lt_isd pa pp pq pc pd pm)), .unset, .unset, .unset, .unset, .unset, .unset, .unset, .unset, .unset, .unset, .unset, .unset] [(.long (0 : Int64))])) t
        have q : (lt_val pa pp pq pc pd pm) = (0 : Int64) := by simp only [lt_val, c7, if_true, if_false, Bool.false_eq_true]; try rfl
        rw [q] at k
        clear q
        exact k
      · refine XS.ifNo X0.here hx rfl (hb hby at_65) rfl (Bool.eq_false_iff.mpr c7) ?_
        show Steps p.tables e below (s₁.setTop (mkF m 68 #[.val (.long pa), .second, .val (.int pp), .val (.int pq), .val (.int pc), .val (.int pd), .val (.long pm), .second, .val (.int (lt_near pa pp pq pc pd pm)), .val (.long (lt_delta pa pp pq pc pd pm)), .second, .val (.int (lt_sx pa pp pq pc pd pm)), .val (.int (lt_isd pa pp pq pc pd pm)), .unset, .unset, .unset, .unset, .unset, .unset, .unset, .unset, .unset, .unset, .unset, .unset] [])) t
        refine XS.iload X0.here hx rfl (hb hby at_68) rfl ?_
        show Steps p.tables e below (s₁.setTop (mkF m 70 #[.val (.long pa), .second, .val (.int pp), .val (.int pq), .val (.int pc), .val (.int pd), .val (.long pm), .second, .val (.int (lt_near pa pp pq pc pd pm)), .val (.long (lt_delta pa pp pq pc pd pm)), .second, .val (.int (lt_sx pa pp pq pc pd pm)), .val (.int (lt_isd pa pp pq pc pd pm)), .unset, .unset, .unset, .unset, .unset, .unset, .unset, .unset, .unset, .unset, .unset, .unset] [(.int (lt_sx pa pp pq pc pd pm))])) t
        refine XS.bipush X0.here hx rfl (hb hby at_70) ?_
        show Steps p.tables e below (s₁.setTop (mkF m 72 #[.val (.long pa), .second, .val (.int pp), .val (.int pq), .val (.int pc), .val (.int pd), .val (.long pm), .second, .val (.int (lt_near pa pp pq pc pd pm)), .val (.long (lt_delta pa pp pq pc pd pm)), .second, .val (.int (lt_sx pa pp pq pc pd pm)), .val (.int (lt_isd pa pp pq pc pd pm)), .unset, .unset, .unset, .unset, .unset, .unset, .unset, .unset, .unset, .unset, .unset, .unset] [(.int (48 : Int32)), (.int (lt_sx pa pp pq pc pd pm))])) t
        refine XS.isub X0.here hx rfl (hb hby at_72) rfl ?_
        show Steps p.tables e below (s₁.setTop (mkF m 73 #[.val (.long pa), .second, .val (.int pp), .val (.int pq), .val (.int pc), .val (.int pd), .val (.long pm), .second, .val (.int (lt_near pa pp pq pc pd pm)), .val (.long (lt_delta pa pp pq pc pd pm)), .second, .val (.int (lt_sx pa pp pq pc pd pm)), .val (.int (lt_isd pa pp pq pc pd pm)), .unset, .unset, .unset, .unset, .unset, .unset, .unset, .unset, .unset, .unset, .unset, .unset] [(.int ((lt_sx pa pp pq pc pd pm) - (48 : Int32)))])) t
        refine XT.i2l X0.here hx rfl (hb hby at_73) rfl ?_
        show Steps p.tables e below (s₁.setTop (mkF m 74 #[.val (.long pa), .second, .val (.int pp), .val (.int pq), .val (.int pc), .val (.int pd), .val (.long pm), .second, .val (.int (lt_near pa pp pq pc pd pm)), .val (.long (lt_delta pa pp pq pc pd pm)), .second, .val (.int (lt_sx pa pp pq pc pd pm)), .val (.int (lt_isd pa pp pq pc pd pm)), .unset, .unset, .unset, .unset, .unset, .unset, .unset, .unset, .unset, .unset, .unset, .unset] [(.long (Int32.toInt64 ((lt_sx pa pp pq pc pd pm) - (48 : Int32))))])) t
        refine XS.goto X0.here hx rfl (pc0 := 74) (pc' := 78) rfl (hb hby at_74) (by decide) (by decide) ?_
        show Steps p.tables e below (s₁.setTop (mkF m 78 #[.val (.long pa), .second, .val (.int pp), .val (.int pq), .val (.int pc), .val (.int pd), .val (.long pm), .second, .val (.int (lt_near pa pp pq pc pd pm)), .val (.long (lt_delta pa pp pq pc pd pm)), .second, .val (.int (lt_sx pa pp pq pc pd pm)), .val (.int (lt_isd pa pp pq pc pd pm)), .unset, .unset, .unset, .unset, .unset, .unset, .unset, .unset, .unset, .unset, .unset, .unset] [(.long (Int32.toInt64 ((lt_sx pa pp pq pc pd pm) - (48 : Int32))))])) t
        have q : (lt_val pa pp pq pc pd pm) = (Int32.toInt64 ((lt_sx pa pp pq pc pd pm) - (48 : Int32))) := by simp only [lt_val, c7, if_true, if_false, Bool.false_eq_true]; try rfl
        rw [q] at k
        clear q
        exact k
    refine sg6 _ ?_
    show Steps p.tables e below (s₁.setTop (mkF m 78 #[.val (.long pa), .second, .val (.int pp), .val (.int pq), .val (.int pc), .val (.int pd), .val (.long pm), .second, .val (.int (lt_near pa pp pq pc pd pm)), .val (.long (lt_delta pa pp pq pc pd pm)), .second, .val (.int (lt_sx pa pp pq pc pd pm)), .val (.int (lt_isd pa pp pq pc pd pm)), .unset, .unset, .unset, .unset, .unset, .unset, .unset, .unset, .unset, .unset, .unset, .unset] [(.long (lt_val pa pp pq pc pd pm))])) _
    refine XT.lstore X0.here hx rfl (hb hby at_78) rfl (l' := #[.val (.long pa), .second, .val (.int pp), .val (.int pq), .val (.int pc), .val (.int pd), .val (.long pm), .second, .val (.int (lt_near pa pp pq pc pd pm)), .val (.long (lt_delta pa pp pq pc pd pm)), .second, .val (.int (lt_sx pa pp pq pc pd pm)), .val (.int (lt_isd pa pp pq pc pd pm)), .val (.long (lt_val pa pp pq pc pd pm)), .second, .unset, .unset, .unset, .unset, .unset, .unset, .unset, .unset, .unset, .unset]) rfl ?_
    show Steps p.tables e below (s₁.setTop (mkF m 80 #[.val (.long pa), .second, .val (.int pp), .val (.int pq), .val (.int pc), .val (.int pd), .val (.long pm), .second, .val (.int (lt_near pa pp pq pc pd pm)), .val (.long (lt_delta pa pp pq pc pd pm)), .second, .val (.int (lt_sx pa pp pq pc pd pm)), .val (.int (lt_isd pa pp pq pc pd pm)), .val (.long (lt_val pa pp pq pc pd pm)), .second, .unset, .unset, .unset, .unset, .unset, .unset, .unset, .unset, .unset, .unset] [])) _
    refine XS.iload X0.here hx rfl (hb hby at_80) rfl ?_
    show Steps p.tables e below (s₁.setTop (mkF m 82 #[.val (.long pa), .second, .val (.int pp), .val (.int pq), .val (.int pc), .val (.int pd), .val (.long pm), .second, .val (.int (lt_near pa pp pq pc pd pm)), .val (.long (lt_delta pa pp pq pc pd pm)), .second, .val (.int (lt_sx pa pp pq pc pd pm)), .val (.int (lt_isd pa pp pq pc pd pm)), .val (.long (lt_val pa pp pq pc pd pm)), .second, .unset, .unset, .unset, .unset, .unset, .unset, .unset, .unset, .unset, .unset] [(.int (lt_near pa pp pq pc pd pm))])) _
    have sg8 : ∀ t, Steps p.tables e below (s₁.setTop (mkF m 95 #[.val (.long pa), .second, .val (.int pp), .val (.int pq), .val (.int pc), .val (.int pd), .val (.long pm), .second, .val (.int (lt_near pa pp pq pc pd pm)), .val (.long (lt_delta pa pp pq pc pd pm)), .second, .val (.int (lt_sx pa pp pq pc pd pm)), .val (.int (lt_isd pa pp pq pc pd pm)), .val (.long (lt_val pa pp pq pc pd pm)), .second, .unset, .unset, .unset, .unset, .unset, .unset, .unset, .unset, .unset, .unset] [(.long (lt_max pa pp pq pc pd pm))])) t → Steps p.tables e below (s₁.setTop (mkF m 82 #[.val (.long pa), .second, .val (.int pp), .val (.int pq), .val (.int pc), .val (.int pd), .val (.long pm), .second, .val (.int (lt_near pa pp pq pc pd pm)), .val (.long (lt_delta pa pp pq pc pd pm)), .second, .val (.int (lt_sx pa pp pq pc pd pm)), .val (.int (lt_isd pa pp pq pc pd pm)), .val (.long (lt_val pa pp pq pc pd pm)), .second, .unset, .unset, .unset, .unset, .unset, .unset, .unset, .unset, .unset, .unset] [(.int (lt_near pa pp pq pc pd pm))])) t := by
      intro t k
      by_cases c9 : (ifCond.holds .eq (lt_near pa pp pq pc pd pm)) = true
      · refine XS.ifYes X0.here hx rfl (pc0 := 82) (pc' := 93) rfl (hb hby at_82) rfl c9 (by decide) (by decide) ?_
        show Steps p.tables e below (s₁.setTop (mkF m 93 #[.val (.long pa), .second, .val (.int pp), .val (.int pq), .val (.int pc), .val (.int pd), .val (.long pm), .second, .val (.int (lt_near pa pp pq pc pd pm)), .val (.long (lt_delta pa pp pq pc pd pm)), .second, .val (.int (lt_sx pa pp pq pc pd pm)), .val (.int (lt_isd pa pp pq pc pd pm)), .val (.long (lt_val pa pp pq pc pd pm)), .second, .unset, .unset, .unset, .unset, .unset, .unset, .unset, .unset, .unset, .unset] [])) t
        refine XT.lload X0.here hx rfl (hb hby at_93) rfl ?_
        show Steps p.tables e below (s₁.setTop (mkF m 95 #[.val (.long pa), .second, .val (.int pp), .val (.int pq), .val (.int pc), .val (.int pd), .val (.long pm), .second, .val (.int (lt_near pa pp pq pc pd pm)), .val (.long (lt_delta pa pp pq pc pd pm)), .second, .val (.int (lt_sx pa pp pq pc pd pm)), .val (.int (lt_isd pa pp pq pc pd pm)), .val (.long (lt_val pa pp pq pc pd pm)), .second, .unset, .unset, .unset, .unset, .unset, .unset, .unset, .unset, .unset, .unset] [(.long pm)])) t
        have q : (lt_max pa pp pq pc pd pm) = pm := by simp only [lt_max, c9, if_true, if_false, Bool.false_eq_true]; try rfl
        rw [q] at k
        clear q
        exact k
      · refine XS.ifNo X0.here hx rfl (hb hby at_82) rfl (Bool.eq_false_iff.mpr c9) ?_
        show Steps p.tables e below (s₁.setTop (mkF m 85 #[.val (.long pa), .second, .val (.int pp), .val (.int pq), .val (.int pc), .val (.int pd), .val (.long pm), .second, .val (.int (lt_near pa pp pq pc pd pm)), .val (.long (lt_delta pa pp pq pc pd pm)), .second, .val (.int (lt_sx pa pp pq pc pd pm)), .val (.int (lt_isd pa pp pq pc pd pm)), .val (.long (lt_val pa pp pq pc pd pm)), .second, .unset, .unset, .unset, .unset, .unset, .unset, .unset, .unset, .unset, .unset] [])) t
        refine XT.lload X0.here hx rfl (hb hby at_85) rfl ?_
        show Steps p.tables e below (s₁.setTop (mkF m 87 #[.val (.long pa), .second, .val (.int pp), .val (.int pq), .val (.int pc), .val (.int pd), .val (.long pm), .second, .val (.int (lt_near pa pp pq pc pd pm)), .val (.long (lt_delta pa pp pq pc pd pm)), .second, .val (.int (lt_sx pa pp pq pc pd pm)), .val (.int (lt_isd pa pp pq pc pd pm)), .val (.long (lt_val pa pp pq pc pd pm)), .second, .unset, .unset, .unset, .unset, .unset, .unset, .unset, .unset, .unset, .unset] [(.long (lt_val pa pp pq pc pd pm))])) t
        refine XT.lload X0.here hx rfl (hb hby at_87) rfl ?_
        show Steps p.tables e below (s₁.setTop (mkF m 89 #[.val (.long pa), .second, .val (.int pp), .val (.int pq), .val (.int pc), .val (.int pd), .val (.long pm), .second, .val (.int (lt_near pa pp pq pc pd pm)), .val (.long (lt_delta pa pp pq pc pd pm)), .second, .val (.int (lt_sx pa pp pq pc pd pm)), .val (.int (lt_isd pa pp pq pc pd pm)), .val (.long (lt_val pa pp pq pc pd pm)), .second, .unset, .unset, .unset, .unset, .unset, .unset, .unset, .unset, .unset, .unset] [(.long (lt_delta pa pp pq pc pd pm)), (.long (lt_val pa pp pq pc pd pm))])) t
        refine XT.ladd X0.here hx rfl (hb hby at_89) rfl ?_
        show Steps p.tables e below (s₁.setTop (mkF m 90 #[.val (.long pa), .second, .val (.int pp), .val (.int pq), .val (.int pc), .val (.int pd), .val (.long pm), .second, .val (.int (lt_near pa pp pq pc pd pm)), .val (.long (lt_delta pa pp pq pc pd pm)), .second, .val (.int (lt_sx pa pp pq pc pd pm)), .val (.int (lt_isd pa pp pq pc pd pm)), .val (.long (lt_val pa pp pq pc pd pm)), .second, .unset, .unset, .unset, .unset, .unset, .unset, .unset, .unset, .unset, .unset] [(.long ((lt_val pa pp pq pc pd pm) + (lt_delta pa pp pq pc pd pm)))])) t
        refine XS.goto X0.here hx rfl (pc0 := 90) (pc' := 95) rfl (hb hby at_90) (by decide) (by decide) ?_
        show Steps p.tables e below (s₁.setTop (mkF m 95 #[.val (.long pa), .second, .val (.int pp), .val (.int pq), .val (.int pc), .val (.int pd), .val (.long pm), .second, .val (.int (lt_near pa pp pq pc pd pm)), .val (.long (lt_delta pa pp pq pc pd pm)), .second, .val (.int (lt_sx pa pp pq pc pd pm)), .val (.int (lt_isd pa pp pq pc pd pm)), .val (.long (lt_val pa pp pq pc pd pm)), .second, .unset, .unset, .unset, .unset, .unset, .unset, .unset, .unset, .unset, .unset] [(.long ((lt_val pa pp pq pc pd pm) + (lt_delta pa pp pq pc pd pm)))])) t
        have q : (lt_max pa pp pq pc pd pm) = ((lt_val pa pp pq pc pd pm) + (lt_delta pa pp pq pc pd pm)) := by simp only [lt_max, c9, if_true, if_false, Bool.false_eq_true]; try rfl
        rw [q] at k
        clear q
        exact k
    refine sg8 _ ?_
    show Steps p.tables e below (s₁.setTop (mkF m 95 #[.val (.long pa), .second, .val (.int pp), .val (.int pq), .val (.int pc), .val (.int pd), .val (.long pm), .second, .val (.int (lt_near pa pp pq pc pd pm)), .val (.long (lt_delta pa pp pq pc pd pm)), .second, .val (.int (lt_sx pa pp pq pc pd pm)), .val (.int (lt_isd pa pp pq pc pd pm)), .val (.long (lt_val pa pp pq pc pd pm)), .second, .unset, .unset, .unset, .unset, .unset, .unset, .unset, .unset, .unset, .unset] [(.long (lt_max pa pp pq pc pd pm))])) _
    refine XT.lstore X0.here hx rfl (hb hby at_95) rfl (l' := #[.val (.long pa), .second, .val (.int pp), .val (.int pq), .val (.int pc), .val (.int pd), .val (.long pm), .second, .val (.int (lt_near pa pp pq pc pd pm)), .val (.long (lt_delta pa pp pq pc pd pm)), .second, .val (.int (lt_sx pa pp pq pc pd pm)), .val (.int (lt_isd pa pp pq pc pd pm)), .val (.long (lt_val pa pp pq pc pd pm)), .second, .val (.long (lt_max pa pp pq pc pd pm)), .second, .unset, .unset, .unset, .unset, .unset, .unset, .unset, .unset]) rfl ?_
    show Steps p.tables e below (s₁.setTop (mkF m 97 #[.val (.long pa), .second, .val (.int pp), .val (.int pq), .val (.int pc), .val (.int pd), .val (.long pm), .second, .val (.int (lt_near pa pp pq pc pd pm)), .val (.long (lt_delta pa pp pq pc pd pm)), .second, .val (.int (lt_sx pa pp pq pc pd pm)), .val (.int (lt_isd pa pp pq pc pd pm)), .val (.long (lt_val pa pp pq pc pd pm)), .second, .val (.long (lt_max pa pp pq pc pd pm)), .second, .unset, .unset, .unset, .unset, .unset, .unset, .unset, .unset] [])) _
    refine XS.iload X0.here hx rfl (hb hby at_97) rfl ?_
    show Steps p.tables e below (s₁.setTop (mkF m 99 #[.val (.long pa), .second, .val (.int pp), .val (.int pq), .val (.int pc), .val (.int pd), .val (.long pm), .second, .val (.int (lt_near pa pp pq pc pd pm)), .val (.long (lt_delta pa pp pq pc pd pm)), .second, .val (.int (lt_sx pa pp pq pc pd pm)), .val (.int (lt_isd pa pp pq pc pd pm)), .val (.long (lt_val pa pp pq pc pd pm)), .second, .val (.long (lt_max pa pp pq pc pd pm)), .second, .unset, .unset, .unset, .unset, .unset, .unset, .unset, .unset] [(.int (lt_isd pa pp pq pc pd pm))])) _
    have sg10 : ∀ t, Steps p.tables e below (s₁.setTop (mkF m 123 #[.val (.long pa), .second, .val (.int pp), .val (.int pq), .val (.int pc), .val (.int pd), .val (.long pm), .second, .val (.int (lt_near pa pp pq pc pd pm)), .val (.long (lt_delta pa pp pq pc pd pm)), .second, .val (.int (lt_sx pa pp pq pc pd pm)), .val (.int (lt_isd pa pp pq pc pd pm)), .val (.long (lt_val pa pp pq pc pd pm)), .second, .val (.long (lt_max pa pp pq pc pd pm)), .second, .unset, .unset, .unset, .unset, .unset, .unset, .unset, .unset] [(.long (lt_exp pa pp pq pc pd pm))])) t → Steps p.tables e below (s₁.setTop (mkF m 99 #[.val (.long pa), .second, .val (.int pp), .val (.int pq), .val (.int pc), .val (.int pd), .val (.long pm), .second, .val (.int (lt_near pa pp pq pc pd pm)), .val (.long (lt_delta pa pp pq pc pd pm)), .second, .val (.int (lt_sx pa pp pq pc pd pm)), .val (.int (lt_isd pa pp pq pc pd pm)), .val (.long (lt_val pa pp pq pc pd pm)), .second, .val (.long (lt_max pa pp pq pc pd pm)), .second, .unset, .unset, .unset, .unset, .unset, .unset, .unset, .unset] [(.int (lt_isd pa pp pq pc pd pm))])) t := by
      intro t k
      by_cases c11 : (ifCond.holds .eq (lt_isd pa pp pq pc pd pm)) = true
      · refine XS.ifYes X0.here hx rfl (pc0 := 99) (pc' := 122) rfl (hb hby at_99) rfl c11 (by decide) (by decide) ?_
        show Steps p.tables e below (s₁.setTop (mkF m 122 #[.val (.long pa), .second, .val (.int pp), .val (.int pq), .val (.int pc), .val (.int pd), .val (.long pm), .second, .val (.int (lt_near pa pp pq pc pd pm)), .val (.long (lt_delta pa pp pq pc pd pm)), .second, .val (.int (lt_sx pa pp pq pc pd pm)), .val (.int (lt_isd pa pp pq pc pd pm)), .val (.long (lt_val pa pp pq pc pd pm)), .second, .val (.long (lt_max pa pp pq pc pd pm)), .second, .unset, .unset, .unset, .unset, .unset, .unset, .unset, .unset] [])) t
        refine XT.lconst X0.here hx rfl (hb hby at_122) ?_
        show Steps p.tables e below (s₁.setTop (mkF m 123 #[.val (.long pa), .second, .val (.int pp), .val (.int pq), .val (.int pc), .val (.int pd), .val (.long pm), .second, .val (.int (lt_near pa pp pq pc pd pm)), .val (.long (lt_delta pa pp pq pc pd pm)), .second, .val (.int (lt_sx pa pp pq pc pd pm)), .val (.int (lt_isd pa pp pq pc pd pm)), .val (.long (lt_val pa pp pq pc pd pm)), .second, .val (.long (lt_max pa pp pq pc pd pm)), .second, .unset, .unset, .unset, .unset, .unset, .unset, .unset, .unset] [(.long (0 : Int64))])) t
        have q : (lt_exp pa pp pq pc pd pm) = (0 : Int64) := by simp only [lt_exp, c11, if_true, if_false, Bool.false_eq_true]; try rfl
        rw [q] at k
        clear q
        exact k
      · refine XS.ifNo X0.here hx rfl (hb hby at_99) rfl (Bool.eq_false_iff.mpr c11) ?_
        show Steps p.tables e below (s₁.setTop (mkF m 102 #[.val (.long pa), .second, .val (.int pp), .val (.int pq), .val (.int pc), .val (.int pd), .val (.long pm), .second, .val (.int (lt_near pa pp pq pc pd pm)), .val (.long (lt_delta pa pp pq pc pd pm)), .second, .val (.int (lt_sx pa pp pq pc pd pm)), .val (.int (lt_isd pa pp pq pc pd pm)), .val (.long (lt_val pa pp pq pc pd pm)), .second, .val (.long (lt_max pa pp pq pc pd pm)), .second, .unset, .unset, .unset, .unset, .unset, .unset, .unset, .unset] [])) t
        refine XT.lload X0.here hx rfl (hb hby at_102) rfl ?_
        show Steps p.tables e below (s₁.setTop (mkF m 104 #[.val (.long pa), .second, .val (.int pp), .val (.int pq), .val (.int pc), .val (.int pd), .val (.long pm), .second, .val (.int (lt_near pa pp pq pc pd pm)), .val (.long (lt_delta pa pp pq pc pd pm)), .second, .val (.int (lt_sx pa pp pq pc pd pm)), .val (.int (lt_isd pa pp pq pc pd pm)), .val (.long (lt_val pa pp pq pc pd pm)), .second, .val (.long (lt_max pa pp pq pc pd pm)), .second, .unset, .unset, .unset, .unset, .unset, .unset, .unset, .unset] [(.long (lt_val pa pp pq pc pd pm))])) t
        refine XT.lconst X0.here hx rfl (hb hby at_104) ?_
        show Steps p.tables e below (s₁.setTop (mkF m 105 #[.val (.long pa), .second, .val (.int pp), .val (.int pq), .val (.int pc), .val (.int pd), .val (.long pm), .second, .val (.int (lt_near pa pp pq pc pd pm)), .val (.long (lt_delta pa pp pq pc pd pm)), .second, .val (.int (lt_sx pa pp pq pc pd pm)), .val (.int (lt_isd pa pp pq pc pd pm)), .val (.long (lt_val pa pp pq pc pd pm)), .second, .val (.long (lt_max pa pp pq pc pd pm)), .second, .unset, .unset, .unset, .unset, .unset, .unset, .unset, .unset] [(.long (1 : Int64)), (.long (lt_val pa pp pq pc pd pm))])) t
        refine XT.lcmp X0.here hx rfl (hb hby at_105) rfl ?_
        show Steps p.tables e below (s₁.setTop (mkF m 106 #[.val (.long pa), .second, .val (.int pp), .val (.int pq), .val (.int pc), .val (.int pd), .val (.long pm), .second, .val (.int (lt_near pa pp pq pc pd pm)), .val (.long (lt_delta pa pp pq pc pd pm)), .second, .val (.int (lt_sx pa pp pq pc pd pm)), .val (.int (lt_isd pa pp pq pc pd pm)), .val (.long (lt_val pa pp pq pc pd pm)), .second, .val (.long (lt_max pa pp pq pc pd pm)), .second, .unset, .unset, .unset, .unset, .unset, .unset, .unset, .unset] [(.int (XT.cmpL (lt_val pa pp pq pc pd pm) (1 : Int64)))])) t
        by_cases c12 : (ifCond.holds .lt (XT.cmpL (lt_val pa pp pq pc pd pm) (1 : Int64))) = true
        · refine XS.ifYes X0.here hx rfl (pc0 := 106) (pc' := 122) rfl (hb hby at_106) rfl c12 (by decide) (by decide) ?_
          show Steps p.tables e below (s₁.setTop (mkF m 122 #[.val (.long pa), .second, .val (.int pp), .val (.int pq), .val (.int pc), .val (.int pd), .val (.long pm), .second, .val (.int (lt_near pa pp pq pc pd pm)), .val (.long (lt_delta pa pp pq pc pd pm)), .second, .val (.int (lt_sx pa pp pq pc pd pm)), .val (.int (lt_isd pa pp pq pc pd pm)), .val (.long (lt_val pa pp pq pc pd pm)), .second, .val (.long (lt_max pa pp pq pc pd pm)), .second, .unset, .unset, .unset, .unset, .unset, .unset, .unset, .unset] [])) t
          refine XT.lconst X0.here hx rfl (hb hby at_122) ?_
          show Steps p.tables e below (s₁.setTop (mkF m 123 #[.val (.long pa), .second, .val (.int pp), .val (.int pq), .val (.int pc), .val (.int pd), .val (.long pm), .second, .val (.int (lt_near pa pp pq pc pd pm)), .val (.long (lt_delta pa pp pq pc pd pm)), .second, .val (.int (lt_sx pa pp pq pc pd pm)), .val (.int (lt_isd pa pp pq pc pd pm)), .val (.long (lt_val pa pp pq pc pd pm)), .second, .val (.long (lt_max pa pp pq pc pd pm)), .second, .unset, .unset, .unset, .unset, .unset, .unset, .unset, .unset] [(.long (0 : Int64))])) t
          have q : (lt_exp pa pp pq pc pd pm) = (0 : Int64) := by simp only [lt_exp, c11, c12, if_true, if_false, Bool.false_eq_true]; try rfl
          rw [q] at k
          clear q
          exact k
        · refine XS.ifNo X0.here hx rfl (hb hby at_106) rfl (Bool.eq_false_iff.mpr c12) ?_
          show Steps p.tables e below (s₁.setTop (mkF m 109 #[.val (.long pa), .second, .val (.int pp), .val (.int pq), .val (.int pc), .val (.int pd), .val (.long pm), .second, .val (.int (lt_near pa pp pq pc pd pm)), .val (.long (lt_delta pa pp pq pc pd pm)), .second, .val (.int (lt_sx pa pp pq pc pd pm)), .val (.int (lt_isd pa pp pq pc pd pm)), .val (.long (lt_val pa pp pq pc pd pm)), .second, .val (.long (lt_max pa pp pq pc pd pm)), .second, .unset, .unset, .unset, .unset, .unset, .unset, .unset, .unset] [])) t
          refine XT.lload X0.here hx rfl (hb hby at_109) rfl ?_
          show Steps p.tables e below (s₁.setTop (mkF m 111 #[.val (.long pa), .second, .val (.int pp), .val (.int pq), .val (.int pc), .val (.int pd), .val (.long pm), .second, .val (.int (lt_near pa pp pq pc pd pm)), .val (.long (lt_delta pa pp pq pc pd pm)), .second, .val (.int (lt_sx pa pp pq pc pd pm)), .val (.int (lt_isd pa pp pq pc pd pm)), .val (.long (lt_val pa pp pq pc pd pm)), .second, .val (.long (lt_max pa pp pq pc pd pm)), .second, .unset, .unset, .unset, .unset, .unset, .unset, .unset, .unset] [(.long (lt_val pa pp pq pc pd pm))])) t
          refine XT.lload X0.here hx rfl (hb hby at_111) rfl ?_
          show Steps p.tables e below (s₁.setTop (mkF m 113 #[.val (.long pa), .second, .val (.int pp), .val (.int pq), .val (.int pc), .val (.int pd), .val (.long pm), .second, .val (.int (lt_near pa pp pq pc pd pm)), .val (.long (lt_delta pa pp pq pc pd pm)), .second, .val (.int (lt_sx pa pp pq pc pd pm)), .val (.int (lt_isd pa pp pq pc pd pm)), .val (.long (lt_val pa pp pq pc pd pm)), .second, .val (.long (lt_max pa pp pq pc pd pm)), .second, .unset, .unset, .unset, .unset, .unset, .unset, .unset, .unset] [(.long (lt_max pa pp pq pc pd pm)), (.long (lt_val pa pp pq pc pd pm))])) t
          refine XT.lcmp X0.here hx rfl (hb hby at_113) rfl ?_
          show Steps p.tables e below (s₁.setTop (mkF m 114 #[.val (.long pa), .second, .val (.int pp), .val (.int pq), .val (.int pc), .val (.int pd), .val (.long pm), .second, .val (.int (lt_near pa pp pq pc pd pm)), .val (.long (lt_delta pa pp pq pc pd pm)), .second, .val (.int (lt_sx pa pp pq pc pd pm)), .val (.int (lt_isd pa pp pq pc pd pm)), .val (.long (lt_val pa pp pq pc pd pm)), .second, .val (.long (lt_max pa pp pq pc pd pm)), .second, .unset, .unset, .unset, .unset, .unset, .unset, .unset, .unset] [(.int (XT.cmpL (lt_val pa pp pq pc pd pm) (lt_max pa pp pq pc pd pm)))])) t
          by_cases c13 : (ifCond.holds .gt (XT.cmpL (lt_val pa pp pq pc pd pm) (lt_max pa pp pq pc pd pm))) = true
          · refine XS.ifYes X0.here hx rfl (pc0 := 114) (pc' := 122) rfl (hb hby at_114) rfl c13 (by decide) (by decide) ?_
            show Steps p.tables e below (s₁.setTop (mkF m 122 #[.val (.long pa), .second, .val (.int pp), .val (.int pq), .val (.int pc), .val (.int pd), .val (.long pm), .second, .val (.int (lt_near pa pp pq pc pd pm)), .val (.long (lt_delta pa pp pq pc pd pm)), .second, .val (.int (lt_sx pa pp pq pc pd pm)), .val (.int (lt_isd pa pp pq pc pd pm)), .val (.long (lt_val pa pp pq pc pd pm)), .second, .val (.long (lt_max pa pp pq pc pd pm)), .second, .unset, .unset, .unset, .unset, .unset, .unset, .unset, .unset] [])) t
            refine XT.lconst X0.here hx rfl (hb hby at_122) ?_
            show Steps p.tables e below (s₁.setTop (mkF m 123 #[.val (.long pa), .second, .val (.int pp), .val (.int pq), .val (.int pc), .val (.int pd), .val (.long pm), .second, .val (.int (lt_near pa pp pq pc pd pm)), .val (.long (lt_delta pa pp pq pc pd pm)), .second, .val (.int (lt_sx pa pp pq pc pd pm)), .val (.int (lt_isd pa pp pq pc pd pm)), .val (.long (lt_val pa pp pq pc pd pm)), .second, .val (.long (lt_max pa pp pq pc pd pm)), .second, .unset, .unset, .unset, .unset, .unset, .unset, .unset, .unset] [(.long (0 : Int64))])) t
            have q : (lt_exp pa pp pq pc pd pm) = (0 : Int64) := by simp only [lt_exp, c11, c12, c13, if_true, if_false, Bool.false_eq_true]; try rfl
            rw [q] at k
            clear q
            exact k
          · refine XS.ifNo X0.here hx rfl (hb hby at_114) rfl (Bool.eq_false_iff.mpr c13) ?_
            show Steps p.tables e below (s₁.setTop (mkF m 117 #[.val (.long pa), .second, .val (.int pp), .val (.int pq), .val (.int pc), .val (.int pd), .val (.long pm), .second, .val (.int (lt_near pa pp pq pc pd pm)), .val (.long (lt_delta pa pp pq pc pd pm)), .second, .val (.int (lt_sx pa pp pq pc pd pm)), .val (.int (lt_isd pa pp pq pc pd pm)), .val (.long (lt_val pa pp pq pc pd pm)), .second, .val (.long (lt_max pa pp pq pc pd pm)), .second, .unset, .unset, .unset, .unset, .unset, .unset, .unset, .unset] [])) t
            refine XT.lload X0.here hx rfl (hb hby at_117) rfl ?_
            show Steps p.tables e below (s₁.setTop (mkF m 119 #[.val (.long pa), .second, .val (.int pp), .val (.int pq), .val (.int pc), .val (.int pd), .val (.long pm), .second, .val (.int (lt_near pa pp pq pc pd pm)), .val (.long (lt_delta pa pp pq pc pd pm)), .second, .val (.int (lt_sx pa pp pq pc pd pm)), .val (.int (lt_isd pa pp pq pc pd pm)), .val (.long (lt_val pa pp pq pc pd pm)), .second, .val (.long (lt_max pa pp pq pc pd pm)), .second, .unset, .unset, .unset, .unset, .unset, .unset, .unset, .unset] [(.long (lt_val pa pp pq pc pd pm))])) t
            refine XS.goto X0.here hx rfl (pc0 := 119) (pc' := 123) rfl (hb hby at_119) (by decide) (by decide) ?_
            show Steps p.tables e below (s₁.setTop (mkF m 123 #[.val (.long pa), .second, .val (.int pp), .val (.int pq), .val (.int pc), .val (.int pd), .val (.long pm), .second, .val (.int (lt_near pa pp pq pc pd pm)), .val (.long (lt_delta pa pp pq pc pd pm)), .second, .val (.int (lt_sx pa pp pq pc pd pm)), .val (.int (lt_isd pa pp pq pc pd pm)), .val (.long (lt_val pa pp pq pc pd pm)), .second, .val (.long (lt_max pa pp pq pc pd pm)), .second, .unset, .unset, .unset, .unset, .unset, .unset, .unset, .unset] [(.long (lt_val pa pp pq pc pd pm))])) t
            have q : (lt_exp pa pp pq pc pd pm) = (lt_val pa pp pq pc pd pm) := by simp only [lt_exp, c11, c12, c13, if_true, if_false, Bool.false_eq_true]; try rfl
            rw [q] at k
            clear q
            exact k
    refine sg10 _ ?_
    show Steps p.tables e below (s₁.setTop (mkF m 123 #[.val (.long pa), .second, .val (.int pp), .val (.int pq), .val (.int pc), .val (.int pd), .val (.long pm), .second, .val (.int (lt_near pa pp pq pc pd pm)), .val (.long (lt_delta pa pp pq pc pd pm)), .second, .val (.int (lt_sx pa pp pq pc pd pm)), .val (.int (lt_isd pa pp pq pc pd pm)), .val (.long (lt_val pa pp pq pc pd pm)), .second, .val (.long (lt_max pa pp pq pc pd pm)), .second, .unset, .unset, .unset, .unset, .unset, .unset, .unset, .unset] [(.long (lt_exp pa pp pq pc pd pm))])) _
    refine XT.lstore X0.here hx rfl (hb hby at_123) rfl (l' := #[.val (.long pa), .second, .val (.int pp), .val (.int pq), .val (.int pc), .val (.int pd), .val (.long pm), .second, .val (.int (lt_near pa pp pq pc pd pm)), .val (.long (lt_delta pa pp pq pc pd pm)), .second, .val (.int (lt_sx pa pp pq pc pd pm)), .val (.int (lt_isd pa pp pq pc pd pm)), .val (.long (lt_val pa pp pq pc pd pm)), .second, .val (.long (lt_max pa pp pq pc pd pm)), .second, .val (.long (lt_exp pa pp pq pc pd pm)), .second, .unset, .unset, .unset, .unset, .unset, .unset]) rfl ?_
    show Steps p.tables e below (s₁.setTop (mkF m 125 #[.val (.long pa), .second, .val (.int pp), .val (.int pq), .val (.int pc), .val (.int pd), .val (.long pm), .second, .val (.int (lt_near pa pp pq pc pd pm)), .val (.long (lt_delta pa pp pq pc pd pm)), .second, .val (.int (lt_sx pa pp pq pc pd pm)), .val (.int (lt_isd pa pp pq pc pd pm)), .val (.long (lt_val pa pp pq pc pd pm)), .second, .val (.long (lt_max pa pp pq pc pd pm)), .second, .val (.long (lt_exp pa pp pq pc pd pm)), .second, .unset, .unset, .unset, .unset, .unset, .unset] [])) _
    refine XS.iload X0.here hx rfl (hb hby at_125) rfl ?_
    show Steps p.tables e below (s₁.setTop (mkF m 127 #[.val (.long pa), .second, .val (.int pp), .val (.int pq), .val (.int pc), .val (.int pd), .val (.long pm), .second, .val (.int (lt_near pa pp pq pc pd pm)), .val (.long (lt_delta pa pp pq pc pd pm)), .second, .val (.int (lt_sx pa pp pq pc pd pm)), .val (.int (lt_isd pa pp pq pc pd pm)), .val (.long (lt_val pa pp pq pc pd pm)), .second, .val (.long (lt_max pa pp pq pc pd pm)), .second, .val (.long (lt_exp pa pp pq pc pd pm)), .second, .unset, .unset, .unset, .unset, .unset, .unset] [(.int (lt_sx pa pp pq pc pd pm))])) _
    refine st14 _ ?_
    show Steps p.tables e below (T14.setTop (mkF m 130 #[.val (.long pa), .second, .val (.int pp), .val (.int pq), .val (.int pc), .val (.int pd), .val (.long pm), .second, .val (.int (lt_near pa pp pq pc pd pm)), .val (.long (lt_delta pa pp pq pc pd pm)), .second, .val (.int (lt_sx pa pp pq pc pd pm)), .val (.int (lt_isd pa pp pq pc pd pm)), .val (.long (lt_val pa pp pq pc pd pm)), .second, .val (.long (lt_max pa pp pq pc pd pm)), .second, .val (.long (lt_exp pa pp pq pc pd pm)), .second, .unset, .unset, .unset, .unset, .unset, .unset] [(.ref ad14)])) _
    refine XT.lload X14.here hx rfl (hb hby at_130) rfl ?_
    show Steps p.tables e below (T14.setTop (mkF m 132 #[.val (.long pa), .second, .val (.int pp), .val (.int pq), .val (.int pc), .val (.int pd), .val (.long pm), .second, .val (.int (lt_near pa pp pq pc pd pm)), .val (.long (lt_delta pa pp pq pc pd pm)), .second, .val (.int (lt_sx pa pp pq pc pd pm)), .val (.int (lt_isd pa pp pq pc pd pm)), .val (.long (lt_val pa pp pq pc pd pm)), .second, .val (.long (lt_max pa pp pq pc pd pm)), .second, .val (.long (lt_exp pa pp pq pc pd pm)), .second, .unset, .unset, .unset, .unset, .unset, .unset] [(.long (lt_max pa pp pq pc pd pm)), (.ref ad14)])) _
    refine st16 _ ?_
    show Steps p.tables e below (T16.setTop (mkF m 135 #[.val (.long pa), .second, .val (.int pp), .val (.int pq), .val (.int pc), .val (.int pd), .val (.long pm), .second, .val (.int (lt_near pa pp pq pc pd pm)), .val (.long (lt_delta pa pp pq pc pd pm)), .second, .val (.int (lt_sx pa pp pq pc pd pm)), .val (.int (lt_isd pa pp pq pc pd pm)), .val (.long (lt_val pa pp pq pc pd pm)), .second, .val (.long (lt_max pa pp pq pc pd pm)), .second, .val (.long (lt_exp pa pp pq pc pd pm)), .second, .unset, .unset, .unset, .unset, .unset, .unset] [(.long (cnt_res (lt_max pa pp pq pc pd pm) ([(lt_sx pa pp pq pc pd pm)] : List Int32)))])) _
    refine XT.lload X16.here hx rfl (hb hby at_135) rfl ?_
    show Steps p.tables e below (T16.setTop (mkF m 137 #[.val (.long pa), .second, .val (.int pp), .val (.int pq), .val (.int pc), .val (.int pd), .val (.long pm), .second, .val (.int (lt_near pa pp pq pc pd pm)), .val (.long (lt_delta pa pp pq pc pd pm)), .second, .val (.int (lt_sx pa pp pq pc pd pm)), .val (.int (lt_isd pa pp pq pc pd pm)), .val (.long (lt_val pa pp pq pc pd pm)), .second, .val (.long (lt_max pa pp pq pc pd pm)), .second, .val (.long (lt_exp pa pp pq pc pd pm)), .second, .unset, .unset, .unset, .unset, .unset, .unset] [(.long (lt_exp pa pp pq pc pd pm)), (.long (cnt_res (lt_max pa pp pq pc pd pm) ([(lt_sx pa pp pq pc pd pm)] : List Int32)))])) _
    refine XT.lcmp X16.here hx rfl (hb hby at_137) rfl ?_
    show Steps p.tables e below (T16.setTop (mkF m 138 #[.val (.long pa), .second, .val (.int pp), .val (.int pq), .val (.int pc), .val (.int pd), .val (.long pm), .second, .val (.int (lt_near pa pp pq pc pd pm)), .val (.long (lt_delta pa pp pq pc pd pm)), .second, .val (.int (lt_sx pa pp pq pc pd pm)), .val (.int (lt_isd pa pp pq pc pd pm)), .val (.long (lt_val pa pp pq pc pd pm)), .second, .val (.long (lt_max pa pp pq pc pd pm)), .second, .val (.long (lt_exp pa pp pq pc pd pm)), .second, .unset, .unset, .unset, .unset, .unset, .unset] [(.int (XT.cmpL (cnt_res (lt_max pa pp pq pc pd pm) ([(lt_sx pa pp pq pc pd pm)] : List Int32)) (lt_exp pa pp pq pc pd pm)))])) _
    refine XS.ifNo X16.here hx rfl (hb hby at_138) rfl (own_finT pa pp pq pc pd pm) ?_
    show Steps p.tables e below (T16.setTop (mkF m 141 #[.val (.long pa), .second, .val (.int pp), .val (.int pq), .val (.int pc), .val (.int pd), .val (.long pm), .second, .val (.int (lt_near pa pp pq pc pd pm)), .val (.long (lt_delta pa pp pq pc pd pm)), .second, .val (.int (lt_sx pa pp pq pc pd pm)), .val (.int (lt_isd pa pp pq pc pd pm)), .val (.long (lt_val pa pp pq pc pd pm)), .second, .val (.long (lt_max pa pp pq pc pd pm)), .second, .val (.long (lt_exp pa pp pq pc pd pm)), .second, .unset, .unset, .unset, .unset, .unset, .unset] [])) _
    refine XS.iconst X16.here hx rfl (hb hby at_141) ?_
    show Steps p.tables e below (T16.setTop (mkF m 142 #[.val (.long pa), .second, .val (.int pp), .val (.int pq), .val (.int pc), .val (.int pd), .val (.long pm), .second, .val (.int (lt_near pa pp pq pc pd pm)), .val (.long (lt_delta pa pp pq pc pd pm)), .second, .val (.int (lt_sx pa pp pq pc pd pm)), .val (.int (lt_isd pa pp pq pc pd pm)), .val (.long (lt_val pa pp pq pc pd pm)), .second, .val (.long (lt_max pa pp pq pc pd pm)), .second, .val (.long (lt_exp pa pp pq pc pd pm)), .second, .unset, .unset, .unset, .unset, .unset, .unset] [(.int (1 : Int32))])) _
    refine XS.goto X16.here hx rfl (pc0 := 142) (pc' := 146) rfl (hb hby at_142) (by decide) (by decide) ?_
    show Steps p.tables e below (T16.setTop (mkF m 146 #[.val (.long pa), .second, .val (.int pp), .val (.int pq), .val (.int pc), .val (.int pd), .val (.long pm), .second, .val (.int (lt_near pa pp pq pc pd pm)), .val (.long (lt_delta pa pp pq pc pd pm)), .second, .val (.int (lt_sx pa pp pq pc pd pm)), .val (.int (lt_isd pa pp pq pc pd pm)), .val (.long (lt_val pa pp pq pc pd pm)), .second, .val (.long (lt_max pa pp pq pc pd pm)), .second, .val (.long (lt_exp pa pp pq pc pd pm)), .second, .unset, .unset, .unset, .unset, .unset, .unset] [(.int (1 : Int32))])) _
    exact retN X16 hx (t := .boolean) Bd.returns (by simp) (hb hby at_146) hr
  · show Q_lt Z pa pp pq pc pd pm G1 G3 h0 n0 _ T16.heap _
    exact ⟨rfl, Nn16⟩
set_option maxRecDepth 65536 in
set_option maxHeartbeats 40000000 in
theorem rm_law (l : Launch) (Z : State) (a0 : Array Value) (hw : ∀ d ∈ tables_1, d.before a0 Z = true) (ws : List Jvm.Cond) (pa : Int64) (pp : Int32) (pq : Int32) (pc : Int32) (pd : Int32) (pm : Int64) (G1 : Int32) (G3 : Value) (h0 : Heap) (n0 : Nat) (Z0 : n0 ≤ h0.size) (k0_ : Old Z n0 h0) (O2 : Sta Z Z.heap "java/lang/String" "COMPACT_STRINGS" "Z" (.int G1)) (hz : ¬ G1 = 0) (O4 : Sta Z Z.heap "jdk/internal/util/Preconditions" "SIOOBE_FORMATTER" "Ljava/util/function/BiFunction;" G3) (rf : G3.isRef = true)  :
    MetFree l x (head1 (Jvm.Cond.code x code maxLocals ret :: ws) room_1) (fun a U => a = #[(.long pa), (.int pp), (.int pq), (.int pc), (.int pd), (.long pm)] ∧ Z.Warmed39 U.vm ∧ U.heap = h0) (fun _ _ _ _ _ => True) (fun _ U o U' => ∃ v L, o = .returned v ∧ Q_lf Z pa pp pq pc pd pm G1 G3 h0 n0 v U'.heap L ∧ FrameEnd U o U' L 16 192) := by
  rcases hq4 : ifCond.holds .eq (pq &&& (4 : Int32)) with _ | _
  · exact rm_lt l Z a0 hw ws pa pp pq pc pd pm G1 G3 h0 n0 Z0 k0_ O2 hz O4 rf hq4
  · exact rm_lf l Z a0 hw ws pa pp pq pc pd pm G1 G3 h0 n0 Z0 k0_ O2 hz O4 rf hq4
set_option maxRecDepth 65536 in
set_option maxHeartbeats 40000000 in
theorem comes_1 {Post : Tables → Env → Array Value → State → Outcome → State → Prop} (hpost : ∀ tb e args s v u, (limb_1_1.after args s (.returned v) u = true ∧ limb_1_2.after args s (.returned v) u = true ∧ True) → FrameEnd s (.returned v) u (Jvm.fieldLocs frame_1_writes args s ++ Jvm.arrayLocs frame_1_arrays args s ++ Jvm.staticLocs frame_1_statics s) 16 192 → Post tb e args s (.returned v) u) :
    ArmFor flags0 classFile x code maxLocals ret World_1 tables_1 room_1 Calls_1 rest_1 Pre_1 Post := by
  intro l hfl _ _ p e ha hc hk s m args below hf hA hF happ hP
  obtain ⟨hcalls, hrest, hpre⟩ := hP
  obtain ⟨-, -, -, hnamed, -, -, -, hat⟩ := (Spec.applies_iff hf).mp happ
  obtain ⟨hg, hn⟩ := and_e (Cond.before_iff.mp (show (Jvm.Cond.and given_1 narrow_1).before args s = true from hpre))
  obtain ⟨h1, g0⟩ := and_e hg
  obtain ⟨i0, g1⟩ := and_e g0
  obtain ⟨i1, g2⟩ := and_e g1
  obtain ⟨i2, g3⟩ := and_e g2
  obtain ⟨i3, g4⟩ := and_e g3
  obtain ⟨i4, g5⟩ := and_e g4
  obtain ⟨w0, w1, w2, w3, w4, w5, rfl⟩ : ∃ w0 w1 w2 w3 w4 w5 : Value, args = #[w0, w1, w2, w3, w4, w5] := by
    have hs : args.size = 6 := by simpa [Cond.value, given_1] using h1
    obtain ⟨L⟩ := args
    match L, hs with
    | [w0, w1, w2, w3, w4, w5], _ => exact ⟨w0, w1, w2, w3, w4, w5, rfl⟩
  have hw := fun d (hd : d ∈ tables_1) => atoms_spec (ws := Jvm.Cond.code x code maxLocals ret :: tables_1) hat d (List.mem_cons_of_mem _ hd)
  obtain ⟨v0, e0⟩ := isL_v i0
  obtain rfl : w0 = (.long v0) := Option.some.inj e0
  obtain ⟨v1, e1⟩ := is_v i1
  obtain rfl : w1 = (.int v1) := Option.some.inj e1
  obtain ⟨v2, e2⟩ := is_v i2
  obtain rfl : w2 = (.int v2) := Option.some.inj e2
  obtain ⟨v3, e3⟩ := is_v i3
  obtain rfl : w3 = (.int v3) := Option.some.inj e3
  obtain ⟨v4, e4⟩ := is_v i4
  obtain rfl : w4 = (.int v4) := Option.some.inj e4
  obtain ⟨v5, e5⟩ := isL_v g5
  obtain rfl : w5 = (.long v5) := Option.some.inj e5
  obtain ⟨hsets, hown0⟩ := atoms_of _ (rest_1_c_eq ▸ (show rest_1_c.before _ s = true from hrest))
  have nz := not_v (Cond.before_iff.mp (hsets _ (List.mem_of_getElem? (i := 2) rfl)))
  obtain ⟨zG, eG⟩ := is_v (Cond.before_iff.mp (hsets _ (List.mem_of_getElem? (i := 1) rfl)))
  have SG : Sta s s.heap "java/lang/String" "COMPACT_STRINGS" "Z" (.int zG) := Sta.start eG (Or.inl (hsets _ (List.mem_of_getElem? (i := 0) rfl)))
  obtain ⟨vF, eF, rF⟩ := isR_v (Cond.before_iff.mp (hsets _ (List.mem_of_getElem? (i := 8) rfl)))
  have SF : Sta s s.heap "jdk/internal/util/Preconditions" "SIOOBE_FORMATTER" "Ljava/util/function/BiFunction;" vF := Sta.start eF (Or.inl (hsets _ (List.mem_of_getElem? (i := 7) rfl)))
  have zN : ¬ (zG = (0 : Int32)) := gotF (Cond.eq_ints eG (Term.int_eval (0))) nz
  obtain ⟨n, o, h1, h2, h3, _, L, rfl, ⟨rfl, N⟩, hq⟩ := rm_law l s _ hw tables_1 v0 v1 v2 v3 v4 v5 zG vF s.heap s.heap.size (Nat.le_refl _) (Old.start s) SG zN SF rF p e ha hc hk s m _ below hf ((Spec.applies_iff_loose hf).mp happ).1 ⟨rfl, State.Warmed39.refl s, rfl⟩ trivial
  refine ⟨n, _, h1, h2, h3, hpost _ _ _ _ _ _ ⟨Cond.after_iff.mpr rfl, Cond.after_iff.mpr (eq_i res_at (Term.int_eval (1)) rfl), trivial⟩ ⟨hq.1, hq.2.1, (hq.2.2.sift fun y hy => Or.inr (N y hy)).mono (by decide) (by decide)⟩⟩
theorem main_1_1 : Claimed_1_1 := comes_1 fun _ _ _ _ _ _ h hF => ⟨h.1, hF⟩
theorem main_1_2 : Claimed_1_2 := comes_1 fun _ _ _ _ _ _ h hF => ⟨h.2.1, hF⟩
end Jvm.Pilot.@@N@@
namespace Jvm.Pilot.@@N@@
open Jvm Jvm.ClassFile Sem Op Lib Jvm.Free Jvm.Stand Jvm.Pilot.@@N@@.Jvm.D
/-! MADE BY PROGRAM (witnessworld.py) out of the Statement's table words and the real class files: 22 classes; the members and pool entries that the words name. The judged class is class 1, her method 2. -/
namespace start1
open Jvm.ClassFile
def u (s : String) : CpInfo := .utf8 (stringToUtf16 s)
/-- a pool by its gaps: so many unusable entries, then the entry; so many at the end -/
def gap : Nat → List CpInfo → List CpInfo
  | 0, r => r
  | n + 1, r => .unusable :: gap n r
def poolList (es : List (Nat × CpInfo)) (last : Nat) : List CpInfo := es.foldr (fun e r => gap e.1 (e.2 :: r)) (gap last [])
def pool (es : List (Nat × CpInfo)) (last : Nat) : Array CpInfo := ⟨poolList es last⟩
def fileOf (pool : Array CpInfo) (this : Nat) (attrs : Array Attribute := #[]) (ms : Array MethodInfo := #[]) (fl : Nat := 33) (sup : Nat := 0) (ifs : Array Nat := #[]) (fds : Array FieldInfo := #[]) : ClassFile where
  minorVersion := 0
  majorVersion := 65
  constantPool := pool
  accessFlags := fl
  thisClass := this
  superClass := sup
  interfaces := ifs
  fields := fds
  methods := ms
  attributes := attrs
def plain (name : String) (sup : Option ClassId) : Class where
  name := name
  kind := .ordinary
  loader := none
  accessFlags := 33
  super := sup
  interfaces := #[]
  cf := none
  fields := #[]
  methods := #[]
  instanceTypes := #[]
  staticTypes := #[]
  resolved := #[]
  callSites := []
  init := .initialized
  statics := none
  mirror := none

def pool0 : Array CpInfo := pool [(5, u "<init>"), (0, u "()V"), (1, .class_ 10), (1, u "java/lang/Object")] 113

def k0c0 : Code := { maxStack := 0, maxLocals := 1, code := object_method_1_code, exceptionTable := #[], attributes := #[] }
def k0m0 : Method := { name := "<init>", desc := "()V", sig := { parameters := [], returnType := none }, accessFlags := 1, code := some k0c0 }
/-- java/lang/Object -/
def k0 : Class := { plain "java/lang/Object" none with
  accessFlags := 33
  interfaces := #[]
  cf := some (fileOf pool0 8 #[] #[{ accessFlags := 1, nameIndex := 5, descriptorIndex := 6, attributes := #[] }] 33 0 #[] #[])
  fields := #[]
  methods := #[k0m0]
  instanceTypes := #[]
  staticTypes := #[]
  resolved := Array.replicate 124 none
  statics := none }

def pool1 : Array CpInfo := pool [(2, .class_ 4), (1, u "java/lang/Object"), (0, u "<init>"), (0, u "()V"), (0, .long 10), (1, .long 3), (1, .long 2), (1, .methodref 14 15), (0, .class_ 16), (0, .nameAndType 17 18), (0, u "java/lang/String"), (0, u "valueOf"), (0, u "(C)Ljava/lang/String;"), (0, .methodref 20 21), (0, .class_ 22), (0, .nameAndType 23 24), (0, u "com/example/kontrakt/kontrakt/input/Numerals"), (0, u "count"), (0, u "(Ljava/lang/String;J)J"), (0, .long 100), (1, .long 1000), (1, .long 10000), (1, .long 100000), (1, .long 1000000), (1, .long 10000000), (1, .long 100000000), (1, .long 1000000000), (1, .long 10000000000), (1, .long 100000000000), (1, .long 1000000000000), (1, .long 10000000000000), (1, .long 100000000000000), (1, .long 1000000000000000), (1, .long 10000000000000000), (1, .long 100000000000000000), (1, .long 1000000000000000000), (1, .long 9223372036854775807), (1, .integer 2147483647), (0, .methodref 63 64), (0, .class_ 65), (0, .nameAndType 66 67), (0, u "com/example/kontrakt/kontrakt/input/NumeralsCountPinLaw"), (0, u "dig"), (0, u "(JIII[J)C"), (0, .methodref 14 69), (0, .nameAndType 5 70), (0, u "([C)V"), (3, u "law"), (0, u "(JIIIIJ)Z")] 6

def k1m0 : Method := { name := "<init>", desc := "()V", sig := { parameters := [], returnType := none }, accessFlags := 2, code := none }
def k1c1 : Code := { maxStack := 5, maxLocals := 6, code := method_2_code, exceptionTable := #[], attributes := #[] }
def k1m1 : Method := { name := "dig", desc := "(JIII[J)C", sig := { parameters := [.long, .int, .int, .int, (.array .long)], returnType := some .char }, accessFlags := 10, code := some k1c1 }
def k1c2 : Code := { maxStack := 8, maxLocals := 25, code := code, exceptionTable := #[], attributes := #[] }
def k1m2 : Method := { name := "law", desc := "(JIIIIJ)Z", sig := { parameters := [.long, .int, .int, .int, .int, .long], returnType := some .boolean }, accessFlags := 9, code := some k1c2 }
/-- com/example/kontrakt/kontrakt/input/NumeralsCountPinLaw -/
def k1 : Class := { plain "com/example/kontrakt/kontrakt/input/NumeralsCountPinLaw" (some 0) with
  accessFlags := 49
  interfaces := #[]
  cf := some (fileOf pool1 63 #[] #[{ accessFlags := 2, nameIndex := 5, descriptorIndex := 6, attributes := #[] }, { accessFlags := 10, nameIndex := 66, descriptorIndex := 67, attributes := #[] }, { accessFlags := 9, nameIndex := 74, descriptorIndex := 75, attributes := #[] }] 49 2 #[] #[])
  fields := #[]
  methods := #[k1m0, k1m1, k1m2]
  instanceTypes := #[]
  staticTypes := #[]
  resolved := Array.replicate 82 none
  statics := none }

def pool2 : Array CpInfo := pool [(1, .class_ 2), (0, u "java/io/Serializable"), (0, .class_ 4), (0, u "java/lang/Object")] 2

/-- java/io/Serializable -/
def k2 : Class := { plain "java/io/Serializable" (some 0) with
  accessFlags := 1537
  interfaces := #[]
  cf := some (fileOf pool2 1 #[] #[] 1537 3 #[] #[])
  fields := #[]
  methods := #[]
  instanceTypes := #[]
  staticTypes := #[]
  resolved := Array.replicate 7 none
  statics := none }

def pool3 : Array CpInfo := pool [(1, .class_ 2), (0, u "java/lang/Comparable"), (0, .class_ 4), (0, u "java/lang/Object")] 7

/-- java/lang/Comparable -/
def k3 : Class := { plain "java/lang/Comparable" (some 0) with
  accessFlags := 1537
  interfaces := #[]
  cf := some (fileOf pool3 1 #[] #[] 1537 3 #[] #[])
  fields := #[]
  methods := #[]
  instanceTypes := #[]
  staticTypes := #[]
  resolved := Array.replicate 12 none
  statics := none }

def pool4 : Array CpInfo := pool [(2, .class_ 4), (1, u "java/lang/CharSequence"), (42, .class_ 48), (0, u "java/lang/CharSequence$1CodePointIterator"), (10, .class_ 60), (0, u "java/lang/CharSequence$1CharIterator"), (5, .class_ 67), (0, u "java/lang/Object")] 63

/-- java/lang/CharSequence -/
def k4 : Class := { plain "java/lang/CharSequence" (some 0) with
  accessFlags := 1537
  interfaces := #[]
  cf := some (fileOf pool4 2 #[.nestMembers #[47, 59]] #[] 1537 66 #[] #[])
  fields := #[]
  methods := #[]
  instanceTypes := #[]
  staticTypes := #[]
  resolved := Array.replicate 131 none
  statics := none }

def pool5 : Array CpInfo := pool [(1, .class_ 2), (0, u "java/lang/constant/Constable"), (0, .class_ 4), (0, u "java/lang/Object")] 6

/-- java/lang/constant/Constable -/
def k5 : Class := { plain "java/lang/constant/Constable" (some 0) with
  accessFlags := 1537
  interfaces := #[]
  cf := some (fileOf pool5 1 #[] #[] 1537 3 #[] #[])
  fields := #[]
  methods := #[]
  instanceTypes := #[]
  staticTypes := #[]
  resolved := Array.replicate 11 none
  statics := none }

def pool6 : Array CpInfo := pool [(1, .class_ 2), (0, u "java/lang/constant/ConstantDesc"), (0, .class_ 4), (0, u "java/lang/Object")] 32

/-- java/lang/constant/ConstantDesc -/
def k6 : Class := { plain "java/lang/constant/ConstantDesc" (some 0) with
  accessFlags := 1537
  interfaces := #[]
  cf := some (fileOf pool6 1 #[] #[] 1537 3 #[] #[])
  fields := #[]
  methods := #[]
  instanceTypes := #[]
  staticTypes := #[]
  resolved := Array.replicate 37 none
  statics := none }

def pool7 : Array CpInfo := pool [(1, .methodref 2 3), (0, .class_ 4), (0, .nameAndType 5 6), (0, u "java/lang/Object"), (0, u "<init>"), (0, u "()V"), (2, .fieldref 10 11), (0, .class_ 12), (0, .nameAndType 13 14), (0, u "java/lang/String"), (0, u "value"), (0, u "[B"), (0, .fieldref 10 16), (0, .nameAndType 17 18), (0, u "coder"), (0, u "B"), (2, u "hash"), (0, u "I"), (2, u "hashIsZero"), (0, u "Z"), (0, .methodref 10 28), (0, .nameAndType 5 29), (0, u "([CIILjava/lang/Void;)V"), (8, .fieldref 10 39), (0, .nameAndType 40 26), (0, u "COMPACT_STRINGS"), (1, .class_ 44), (1, u "java/lang/StringUTF16"), (0, u "compress"), (1, .methodref 42 48), (0, .nameAndType 49 50), (0, u "coderFromArrayLen"), (0, u "([BI)B"), (2, u "toBytes"), (53, .class_ 109), (1, u "java/lang/StringLatin1"), (32, u "()Z"), (34, .methodref 42 178), (0, .nameAndType 45 179), (0, u "([CII)[B"), (29, .methodref 10 210), (0, .nameAndType 5 211), (0, u "([BB)V"), (122, u "()I"), (0, .methodref 10 336), (0, .nameAndType 17 337), (0, u "()B"), (25, u "([BI)C"), (5, u "(C)Z"), (21, u "(II)V"), (35, u "(I)C"), (64, .methodref 10 493), (0, .nameAndType 494 142), (0, u "isLatin1"), (0, .methodref 107 496), (0, .nameAndType 497 363), (0, u "charAt"), (3, u "checkIndex"), (5, u "length"), (67, .class_ 576), (0, u "java/lang/CharSequence"), (22, u "CASE_INSENSITIVE_ORDER"), (0, u "Ljava/util/Comparator;"), (91, u "isEmpty"), (89, u "valueOf"), (0, u "(C)Ljava/lang/String;"), (226, u "([C)V"), (4, .methodref 107 1016), (0, .nameAndType 1017 369), (0, u "canEncode"), (0, .methodref 107 1019), (0, .nameAndType 53 1020), (0, u "(C)[B"), (32, .fieldref 1054 1055), (0, .class_ 1056), (0, .nameAndType 1057 1058), (0, u "jdk/internal/util/Preconditions"), (0, u "SIOOBE_FORMATTER"), (0, u "Ljava/util/function/BiFunction;"), (0, .methodref 1054 1060), (0, .nameAndType 501 1061), (0, u "(IILjava/util/function/BiFunction;)I"), (39, u "serialPersistentFields"), (0, u "[Ljava/io/ObjectStreamField;"), (0, .class_ 1104), (0, u "java/lang/String$CaseInsensitiveComparator"), (1, .class_ 1107), (0, u "java/io/Serializable"), (0, .class_ 1109), (0, u "java/lang/Comparable"), (0, .class_ 1111), (0, u "java/lang/constant/Constable"), (0, .class_ 1113), (0, u "java/lang/constant/ConstantDesc"), (2, u "serialVersionUID"), (0, u "J"), (3, u "REPL"), (0, u "C"), (2, u "LATIN1"), (1, u "UTF16")] 323

def k7m0 : Method := { name := "<init>", desc := "()V", sig := { parameters := [], returnType := none }, accessFlags := 1, code := none }
def k7c1 : Code := { maxStack := 5, maxLocals := 2, code := jdk_42_method_3_code, exceptionTable := #[], attributes := #[] }
def k7m1 : Method := { name := "<init>", desc := "([C)V", sig := { parameters := [(.array .char)], returnType := none }, accessFlags := 1, code := some k7c1 }
def k7c2 : Code := { maxStack := 2, maxLocals := 1, code := jdk_42_method_54_code, exceptionTable := #[], attributes := #[] }
def k7m2 : Method := { name := "length", desc := "()I", sig := { parameters := [], returnType := some .int }, accessFlags := 1, code := some k7c2 }
def k7c3 : Code := { maxStack := 1, maxLocals := 1, code := jdk_42_method_55_code, exceptionTable := #[], attributes := #[] }
def k7m3 : Method := { name := "isEmpty", desc := "()Z", sig := { parameters := [], returnType := some .boolean }, accessFlags := 1, code := some k7c3 }
def k7c4 : Code := { maxStack := 2, maxLocals := 2, code := jdk_42_method_56_code, exceptionTable := #[], attributes := #[] }
def k7m4 : Method := { name := "charAt", desc := "(I)C", sig := { parameters := [.int], returnType := some .char }, accessFlags := 1, code := some k7c4 }
def k7c5 : Code := { maxStack := 4, maxLocals := 1, code := jdk_42_method_139_code, exceptionTable := #[], attributes := #[] }
def k7m5 : Method := { name := "valueOf", desc := "(C)Ljava/lang/String;", sig := { parameters := [.char], returnType := some (.object "java/lang/String") }, accessFlags := 9, code := some k7c5 }
def k7c6 : Code := { maxStack := 4, maxLocals := 6, code := jdk_42_method_149_code, exceptionTable := #[], attributes := #[] }
def k7m6 : Method := { name := "<init>", desc := "([CIILjava/lang/Void;)V", sig := { parameters := [(.array .char), .int, .int, (.object "java/lang/Void")], returnType := none }, accessFlags := 2, code := some k7c6 }
def k7c7 : Code := { maxStack := 2, maxLocals := 3, code := jdk_42_method_151_code, exceptionTable := #[], attributes := #[] }
def k7m7 : Method := { name := "<init>", desc := "([BB)V", sig := { parameters := [(.array .byte), .byte], returnType := none }, accessFlags := 0, code := some k7c7 }
def k7c8 : Code := { maxStack := 1, maxLocals := 1, code := jdk_42_method_152_code, exceptionTable := #[], attributes := #[] }
def k7m8 : Method := { name := "coder", desc := "()B", sig := { parameters := [], returnType := some .byte }, accessFlags := 0, code := some k7c8 }
def k7c9 : Code := { maxStack := 1, maxLocals := 1, code := jdk_42_method_154_code, exceptionTable := #[], attributes := #[] }
def k7m9 : Method := { name := "isLatin1", desc := "()Z", sig := { parameters := [], returnType := some .boolean }, accessFlags := 0, code := some k7c9 }
def k7c10 : Code := { maxStack := 3, maxLocals := 2, code := jdk_42_method_155_code, exceptionTable := #[], attributes := #[] }
def k7m10 : Method := { name := "checkIndex", desc := "(II)V", sig := { parameters := [.int, .int], returnType := none }, accessFlags := 8, code := some k7c10 }
/-- java/lang/String -/
def k7 : Class := { plain "java/lang/String" (some 0) with
  accessFlags := 49
  interfaces := #[2, 3, 4, 5, 6]
  cf := some (fileOf pool7 10 #[.nestMembers #[1103]] #[{ accessFlags := 1, nameIndex := 5, descriptorIndex := 6, attributes := #[] }, { accessFlags := 1, nameIndex := 5, descriptorIndex := 1010, attributes := #[] }, { accessFlags := 1, nameIndex := 507, descriptorIndex := 334, attributes := #[] }, { accessFlags := 1, nameIndex := 692, descriptorIndex := 142, attributes := #[] }, { accessFlags := 1, nameIndex := 497, descriptorIndex := 427, attributes := #[] }, { accessFlags := 9, nameIndex := 782, descriptorIndex := 783, attributes := #[] }, { accessFlags := 2, nameIndex := 5, descriptorIndex := 29, attributes := #[] }, { accessFlags := 0, nameIndex := 5, descriptorIndex := 211, attributes := #[] }, { accessFlags := 0, nameIndex := 17, descriptorIndex := 337, attributes := #[] }, { accessFlags := 0, nameIndex := 494, descriptorIndex := 142, attributes := #[] }, { accessFlags := 8, nameIndex := 501, descriptorIndex := 391, attributes := #[] }] 49 2 #[1106, 1108, 575, 1110, 1112] #[{ accessFlags := 18, nameIndex := 13, descriptorIndex := 14, attributes := #[] }, { accessFlags := 18, nameIndex := 17, descriptorIndex := 18, attributes := #[] }, { accessFlags := 2, nameIndex := 21, descriptorIndex := 22, attributes := #[] }, { accessFlags := 2, nameIndex := 25, descriptorIndex := 26, attributes := #[] }, { accessFlags := 26, nameIndex := 1116, descriptorIndex := 1117, attributes := #[] }, { accessFlags := 24, nameIndex := 40, descriptorIndex := 26, attributes := #[] }, { accessFlags := 26, nameIndex := 1101, descriptorIndex := 1102, attributes := #[] }, { accessFlags := 26, nameIndex := 1121, descriptorIndex := 1122, attributes := #[] }, { accessFlags := 25, nameIndex := 599, descriptorIndex := 600, attributes := #[] }, { accessFlags := 24, nameIndex := 1125, descriptorIndex := 18, attributes := #[] }, { accessFlags := 24, nameIndex := 1127, descriptorIndex := 18, attributes := #[] }])
  fields := #[{ name := "value", type := (.array .byte), accessFlags := 18, slot := 0, constantValue := 0 }, { name := "coder", type := .byte, accessFlags := 18, slot := 1, constantValue := 0 }, { name := "hash", type := .int, accessFlags := 2, slot := 2, constantValue := 0 }, { name := "hashIsZero", type := .boolean, accessFlags := 2, slot := 3, constantValue := 0 }, { name := "serialVersionUID", type := .long, accessFlags := 26, slot := 0, constantValue := 0 }, { name := "COMPACT_STRINGS", type := .boolean, accessFlags := 24, slot := 1, constantValue := 0 }, { name := "serialPersistentFields", type := (.array (.object "java/io/ObjectStreamField")), accessFlags := 26, slot := 2, constantValue := 0 }, { name := "REPL", type := .char, accessFlags := 26, slot := 3, constantValue := 0 }, { name := "CASE_INSENSITIVE_ORDER", type := (.object "java/util/Comparator"), accessFlags := 25, slot := 4, constantValue := 0 }, { name := "LATIN1", type := .byte, accessFlags := 24, slot := 5, constantValue := 0 }, { name := "UTF16", type := .byte, accessFlags := 24, slot := 6, constantValue := 0 }]
  methods := #[k7m0, k7m1, k7m2, k7m3, k7m4, k7m5, k7m6, k7m7, k7m8, k7m9, k7m10]
  instanceTypes := #[(.array .byte), .byte, .int, .boolean]
  staticTypes := #[.long, .boolean, (.array (.object "java/io/ObjectStreamField")), .char, (.object "java/util/Comparator"), .byte, .byte]
  resolved := Array.replicate 1451 none
  statics := some 0 }

def pool8 : Array CpInfo := pool [(6, .class_ 8), (1, u "java/lang/Object"), (0, u "<init>"), (0, u "()V"), (1, .class_ 14), (1, u "java/lang/StringUTF16"), (31, u "$assertionsDisabled"), (0, u "Z"), (13, u "HI_BYTE_SHIFT"), (0, u "I"), (2, u "LO_BYTE_SHIFT"), (49, .methodref 12 116), (0, .nameAndType 117 118), (0, u "compress"), (0, u "([CI[BII)I"), (3, u "([CII)[B"), (138, u "coderFromArrayLen"), (0, u "([BI)B"), (106, .class_ 371), (1, u "java/lang/StringUTF16$LinesSpliterator"), (58, u "MAX_LENGTH"), (196, .class_ 628), (0, u "java/lang/StringUTF16$CodePointsSpliterator"), (0, .class_ 630), (0, u "java/lang/StringUTF16$CharsSpliterator")] 4

def k8m0 : Method := { name := "<init>", desc := "()V", sig := { parameters := [], returnType := none }, accessFlags := 0, code := none }
def k8c1 : Code := { maxStack := 2, maxLocals := 2, code := jdk_52_method_15_code, exceptionTable := #[], attributes := #[] }
def k8m1 : Method := { name := "coderFromArrayLen", desc := "([BI)B", sig := { parameters := [(.array .byte), .int], returnType := some .byte }, accessFlags := 8, code := some k8c1 }
def k8c2 : Code := { maxStack := 5, maxLocals := 6, code := jdk_52_method_16_code, exceptionTable := #[], attributes := #[] }
def k8m2 : Method := { name := "compress", desc := "([CII)[B", sig := { parameters := [(.array .char), .int, .int], returnType := some (.array .byte) }, accessFlags := 9, code := some k8c2 }
def k8c3 : Code := { maxStack := 3, maxLocals := 7, code := jdk_52_method_21_code, exceptionTable := #[], attributes := #[] }
def k8m3 : Method := { name := "compress", desc := "([CI[BII)I", sig := { parameters := [(.array .char), .int, (.array .byte), .int, .int], returnType := some .int }, accessFlags := 9, code := some k8c3 }
/-- java/lang/StringUTF16 -/
def k8 : Class := { plain "java/lang/StringUTF16" (some 0) with
  accessFlags := 48
  interfaces := #[]
  cf := some (fileOf pool8 12 #[.nestMembers #[627, 629, 369]] #[{ accessFlags := 0, nameIndex := 9, descriptorIndex := 10, attributes := #[] }, { accessFlags := 8, nameIndex := 261, descriptorIndex := 262, attributes := #[] }, { accessFlags := 9, nameIndex := 117, descriptorIndex := 122, attributes := #[] }, { accessFlags := 9, nameIndex := 117, descriptorIndex := 118, attributes := #[] }] 48 6 #[] #[{ accessFlags := 26, nameIndex := 61, descriptorIndex := 62, attributes := #[] }, { accessFlags := 26, nameIndex := 65, descriptorIndex := 62, attributes := #[] }, { accessFlags := 24, nameIndex := 430, descriptorIndex := 62, attributes := #[] }, { accessFlags := 4120, nameIndex := 46, descriptorIndex := 47, attributes := #[] }])
  fields := #[{ name := "HI_BYTE_SHIFT", type := .int, accessFlags := 26, slot := 0, constantValue := 0 }, { name := "LO_BYTE_SHIFT", type := .int, accessFlags := 26, slot := 1, constantValue := 0 }, { name := "MAX_LENGTH", type := .int, accessFlags := 24, slot := 2, constantValue := 0 }, { name := "$assertionsDisabled", type := .boolean, accessFlags := 4120, slot := 3, constantValue := 0 }]
  methods := #[k8m0, k8m1, k8m2, k8m3]
  instanceTypes := #[]
  staticTypes := #[.int, .int, .int, .boolean]
  resolved := Array.replicate 635 none
  statics := none }

def pool9 : Array CpInfo := pool [(2, .class_ 4), (1, u "java/lang/Object"), (0, u "<init>"), (0, u "()V"), (1, .class_ 10), (1, u "java/lang/String"), (2, .methodref 14 15), (0, .class_ 16), (0, .nameAndType 17 18), (0, u "com/example/kontrakt/kontrakt/input/Numerals"), (0, u "isDigits"), (0, u "(Ljava/lang/String;)Z"), (7, .methodref 8 27), (0, .nameAndType 28 29), (0, u "length"), (0, u "()I"), (23, .methodref 8 54), (0, .nameAndType 55 56), (0, u "charAt"), (0, u "(I)C"), (0, .long 10), (1, .methodref 8 60), (0, .nameAndType 61 62), (0, u "isEmpty"), (0, u "()Z"), (10, u "count"), (0, u "(Ljava/lang/String;J)J")] 24

def k9m0 : Method := { name := "<init>", desc := "()V", sig := { parameters := [], returnType := none }, accessFlags := 2, code := none }
def k9c1 : Code := { maxStack := 6, maxLocals := 7, code := prog_22_method_3_code, exceptionTable := #[], attributes := #[] }
def k9m1 : Method := { name := "count", desc := "(Ljava/lang/String;J)J", sig := { parameters := [(.object "java/lang/String"), .long], returnType := some .long }, accessFlags := 8, code := some k9c1 }
def k9c2 : Code := { maxStack := 2, maxLocals := 2, code := prog_22_method_4_code, exceptionTable := #[], attributes := #[] }
def k9m2 : Method := { name := "isDigits", desc := "(Ljava/lang/String;)Z", sig := { parameters := [(.object "java/lang/String")], returnType := some .boolean }, accessFlags := 10, code := some k9c2 }
/-- com/example/kontrakt/kontrakt/input/Numerals -/
def k9 : Class := { plain "com/example/kontrakt/kontrakt/input/Numerals" (some 0) with
  accessFlags := 49
  interfaces := #[]
  cf := some (fileOf pool9 14 #[] #[{ accessFlags := 2, nameIndex := 5, descriptorIndex := 6, attributes := #[] }, { accessFlags := 8, nameIndex := 73, descriptorIndex := 74, attributes := #[] }, { accessFlags := 10, nameIndex := 17, descriptorIndex := 18, attributes := #[] }] 49 2 #[] #[])
  fields := #[]
  methods := #[k9m0, k9m1, k9m2]
  instanceTypes := #[]
  staticTypes := #[]
  resolved := Array.replicate 99 none
  statics := none }

def pool10 : Array CpInfo := pool [(1, .class_ 2), (0, u "java/lang/String"), (1, .class_ 6), (1, u "java/lang/Object"), (0, u "<init>"), (0, u "()V"), (0, .methodref 1 10), (0, .nameAndType 11 12), (0, u "checkIndex"), (0, u "(II)V"), (1, .class_ 16), (1, u "java/lang/StringLatin1"), (36, u "([BI)C"), (36, u "canEncode"), (14, u "(C)Z"), (15, u "$assertionsDisabled"), (0, u "Z"), (98, .class_ 223), (1, u "java/lang/StringLatin1$LinesSpliterator"), (28, u "charAt"), (127, u "toBytes"), (1, u "(C)[B"), (7, .class_ 391), (0, u "java/lang/StringLatin1$CharsSpliterator")] 3

def k10m0 : Method := { name := "<init>", desc := "()V", sig := { parameters := [], returnType := none }, accessFlags := 0, code := none }
def k10c1 : Code := { maxStack := 2, maxLocals := 2, code := jdk_43_method_2_code, exceptionTable := #[], attributes := #[] }
def k10m1 : Method := { name := "charAt", desc := "([BI)C", sig := { parameters := [(.array .byte), .int], returnType := some .char }, accessFlags := 9, code := some k10c1 }
def k10c2 : Code := { maxStack := 2, maxLocals := 1, code := jdk_43_method_3_code, exceptionTable := #[], attributes := #[] }
def k10m2 : Method := { name := "canEncode", desc := "(C)Z", sig := { parameters := [.char], returnType := some .boolean }, accessFlags := 9, code := some k10c2 }
def k10c3 : Code := { maxStack := 4, maxLocals := 1, code := jdk_43_method_46_code, exceptionTable := #[], attributes := #[] }
def k10m3 : Method := { name := "toBytes", desc := "(C)[B", sig := { parameters := [.char], returnType := some (.array .byte) }, accessFlags := 9, code := some k10c3 }
/-- java/lang/StringLatin1 -/
def k10 : Class := { plain "java/lang/StringLatin1" (some 0) with
  accessFlags := 48
  interfaces := #[]
  cf := some (fileOf pool10 14 #[.nestMembers #[390, 221]] #[{ accessFlags := 0, nameIndex := 7, descriptorIndex := 8, attributes := #[] }, { accessFlags := 9, nameIndex := 252, descriptorIndex := 53, attributes := #[] }, { accessFlags := 9, nameIndex := 90, descriptorIndex := 105, attributes := #[] }, { accessFlags := 9, nameIndex := 380, descriptorIndex := 382, attributes := #[] }] 48 4 #[] #[{ accessFlags := 4120, nameIndex := 121, descriptorIndex := 122, attributes := #[] }])
  fields := #[{ name := "$assertionsDisabled", type := .boolean, accessFlags := 4120, slot := 0, constantValue := 0 }]
  methods := #[k10m0, k10m1, k10m2, k10m3]
  instanceTypes := #[]
  staticTypes := #[.boolean]
  resolved := Array.replicate 395 none
  statics := none }

def pool11 : Array CpInfo := pool [(2, .class_ 4), (1, u "java/lang/Object"), (0, u "<init>"), (0, u "()V"), (17, .class_ 26), (1, u "jdk/internal/util/Preconditions"), (6, u "checkIndex"), (21, .class_ 56), (0, u "jdk/internal/util/Preconditions$4"), (57, .class_ 115), (0, u "jdk/internal/util/Preconditions$1"), (7, u "SIOOBE_FORMATTER"), (0, u "Ljava/util/function/BiFunction;"), (0, .class_ 126), (0, u "jdk/internal/util/Preconditions$2"), (3, u "AIOOBE_FORMATTER"), (0, .class_ 132), (0, u "jdk/internal/util/Preconditions$3"), (3, u "IOOBE_FORMATTER"), (41, u "(IILjava/util/function/BiFunction;)I")] 15

def k11m0 : Method := { name := "<init>", desc := "()V", sig := { parameters := [], returnType := none }, accessFlags := 1, code := none }
def k11c1 : Code := { maxStack := 3, maxLocals := 3, code := jdk_41_method_11_code, exceptionTable := #[], attributes := #[] }
def k11m1 : Method := { name := "checkIndex", desc := "(IILjava/util/function/BiFunction;)I", sig := { parameters := [.int, .int, (.object "java/util/function/BiFunction")], returnType := some .int }, accessFlags := 9, code := some k11c1 }
/-- jdk/internal/util/Preconditions -/
def k11 : Class := { plain "jdk/internal/util/Preconditions" (some 0) with
  accessFlags := 33
  interfaces := #[]
  cf := some (fileOf pool11 24 #[.nestMembers #[55, 131, 125, 114]] #[{ accessFlags := 1, nameIndex := 5, descriptorIndex := 6, attributes := #[] }, { accessFlags := 9, nameIndex := 33, descriptorIndex := 178, attributes := #[] }] 33 2 #[] #[{ accessFlags := 25, nameIndex := 123, descriptorIndex := 124, attributes := #[] }, { accessFlags := 25, nameIndex := 130, descriptorIndex := 124, attributes := #[] }, { accessFlags := 25, nameIndex := 136, descriptorIndex := 124, attributes := #[] }])
  fields := #[{ name := "SIOOBE_FORMATTER", type := (.object "java/util/function/BiFunction"), accessFlags := 25, slot := 0, constantValue := 0 }, { name := "AIOOBE_FORMATTER", type := (.object "java/util/function/BiFunction"), accessFlags := 25, slot := 1, constantValue := 0 }, { name := "IOOBE_FORMATTER", type := (.object "java/util/function/BiFunction"), accessFlags := 25, slot := 2, constantValue := 0 }]
  methods := #[k11m0, k11m1]
  instanceTypes := #[]
  staticTypes := #[(.object "java/util/function/BiFunction"), (.object "java/util/function/BiFunction"), (.object "java/util/function/BiFunction")]
  resolved := Array.replicate 194 none
  statics := some 1 }

def pool12 : Array CpInfo := pool [(9, u "<init>"), (6, .class_ 18), (1, u "java/lang/Object"), (0, u "()V"), (1, .class_ 23), (1, u "jdk/internal/util/ArraysSupport"), (0, u "LOG2_ARRAY_LONG_INDEX_SCALE"), (0, u "I"), (2, u "U"), (0, u "Ljdk/internal/misc/Unsafe;"), (8, u "BIG_ENDIAN"), (0, u "Z"), (8, u "LOG2_BYTE_BIT_SIZE"), (4, u "LOG2_ARRAY_INT_INDEX_SCALE"), (54, u "JLA"), (0, u "Ljdk/internal/access/JavaLangAccess;"), (11, u "LOG2_ARRAY_BOOLEAN_INDEX_SCALE"), (9, u "LOG2_ARRAY_BYTE_INDEX_SCALE"), (5, u "LOG2_ARRAY_CHAR_INDEX_SCALE"), (5, u "LOG2_ARRAY_SHORT_INDEX_SCALE"), (18, u "LOG2_ARRAY_FLOAT_INDEX_SCALE"), (24, u "LOG2_ARRAY_DOUBLE_INDEX_SCALE"), (89, u "T_BOOLEAN"), (2, u "T_CHAR"), (1, u "T_FLOAT"), (1, u "T_DOUBLE"), (1, u "T_BYTE"), (1, u "T_SHORT"), (1, u "T_INT"), (1, u "T_LONG"), (1, u "SOFT_MAX_ARRAY_LENGTH")] 83

def k12m0 : Method := { name := "<init>", desc := "()V", sig := { parameters := [], returnType := none }, accessFlags := 2, code := none }
/-- jdk/internal/util/ArraysSupport -/
def k12 : Class := { plain "jdk/internal/util/ArraysSupport" (some 0) with
  accessFlags := 33
  interfaces := #[]
  cf := some (fileOf pool12 21 #[] #[{ accessFlags := 2, nameIndex := 9, descriptorIndex := 19, attributes := #[] }] 33 16 #[] #[{ accessFlags := 24, nameIndex := 28, descriptorIndex := 29, attributes := #[] }, { accessFlags := 26, nameIndex := 38, descriptorIndex := 39, attributes := #[] }, { accessFlags := 25, nameIndex := 121, descriptorIndex := 25, attributes := #[] }, { accessFlags := 25, nameIndex := 131, descriptorIndex := 25, attributes := #[] }, { accessFlags := 25, nameIndex := 137, descriptorIndex := 25, attributes := #[] }, { accessFlags := 25, nameIndex := 143, descriptorIndex := 25, attributes := #[] }, { accessFlags := 25, nameIndex := 53, descriptorIndex := 25, attributes := #[] }, { accessFlags := 25, nameIndex := 24, descriptorIndex := 25, attributes := #[] }, { accessFlags := 25, nameIndex := 162, descriptorIndex := 25, attributes := #[] }, { accessFlags := 25, nameIndex := 187, descriptorIndex := 25, attributes := #[] }, { accessFlags := 26, nameIndex := 48, descriptorIndex := 25, attributes := #[] }, { accessFlags := 25, nameIndex := 277, descriptorIndex := 25, attributes := #[] }, { accessFlags := 25, nameIndex := 280, descriptorIndex := 25, attributes := #[] }, { accessFlags := 25, nameIndex := 282, descriptorIndex := 25, attributes := #[] }, { accessFlags := 25, nameIndex := 284, descriptorIndex := 25, attributes := #[] }, { accessFlags := 25, nameIndex := 286, descriptorIndex := 25, attributes := #[] }, { accessFlags := 25, nameIndex := 288, descriptorIndex := 25, attributes := #[] }, { accessFlags := 25, nameIndex := 290, descriptorIndex := 25, attributes := #[] }, { accessFlags := 25, nameIndex := 292, descriptorIndex := 25, attributes := #[] }, { accessFlags := 26, nameIndex := 108, descriptorIndex := 109, attributes := #[] }, { accessFlags := 25, nameIndex := 294, descriptorIndex := 25, attributes := #[] }])
  fields := #[{ name := "U", type := (.object "jdk/internal/misc/Unsafe"), accessFlags := 24, slot := 0, constantValue := 0 }, { name := "BIG_ENDIAN", type := .boolean, accessFlags := 26, slot := 1, constantValue := 0 }, { name := "LOG2_ARRAY_BOOLEAN_INDEX_SCALE", type := .int, accessFlags := 25, slot := 2, constantValue := 0 }, { name := "LOG2_ARRAY_BYTE_INDEX_SCALE", type := .int, accessFlags := 25, slot := 3, constantValue := 0 }, { name := "LOG2_ARRAY_CHAR_INDEX_SCALE", type := .int, accessFlags := 25, slot := 4, constantValue := 0 }, { name := "LOG2_ARRAY_SHORT_INDEX_SCALE", type := .int, accessFlags := 25, slot := 5, constantValue := 0 }, { name := "LOG2_ARRAY_INT_INDEX_SCALE", type := .int, accessFlags := 25, slot := 6, constantValue := 0 }, { name := "LOG2_ARRAY_LONG_INDEX_SCALE", type := .int, accessFlags := 25, slot := 7, constantValue := 0 }, { name := "LOG2_ARRAY_FLOAT_INDEX_SCALE", type := .int, accessFlags := 25, slot := 8, constantValue := 0 }, { name := "LOG2_ARRAY_DOUBLE_INDEX_SCALE", type := .int, accessFlags := 25, slot := 9, constantValue := 0 }, { name := "LOG2_BYTE_BIT_SIZE", type := .int, accessFlags := 26, slot := 10, constantValue := 0 }, { name := "T_BOOLEAN", type := .int, accessFlags := 25, slot := 11, constantValue := 0 }, { name := "T_CHAR", type := .int, accessFlags := 25, slot := 12, constantValue := 0 }, { name := "T_FLOAT", type := .int, accessFlags := 25, slot := 13, constantValue := 0 }, { name := "T_DOUBLE", type := .int, accessFlags := 25, slot := 14, constantValue := 0 }, { name := "T_BYTE", type := .int, accessFlags := 25, slot := 15, constantValue := 0 }, { name := "T_SHORT", type := .int, accessFlags := 25, slot := 16, constantValue := 0 }, { name := "T_INT", type := .int, accessFlags := 25, slot := 17, constantValue := 0 }, { name := "T_LONG", type := .int, accessFlags := 25, slot := 18, constantValue := 0 }, { name := "JLA", type := (.object "jdk/internal/access/JavaLangAccess"), accessFlags := 26, slot := 19, constantValue := 0 }, { name := "SOFT_MAX_ARRAY_LENGTH", type := .int, accessFlags := 25, slot := 20, constantValue := 0 }]
  methods := #[k12m0]
  instanceTypes := #[]
  staticTypes := #[(.object "jdk/internal/misc/Unsafe"), .boolean, .int, .int, .int, .int, .int, .int, .int, .int, .int, .int, .int, .int, .int, .int, .int, .int, .int, (.object "jdk/internal/access/JavaLangAccess"), .int]
  resolved := Array.replicate 378 none
  statics := none }

def pool13 : Array CpInfo := pool [(1, u "java/lang/Cloneable"), (0, .class_ 1), (0, u "java/lang/Object"), (0, .class_ 3)] 3

/-- java/lang/Cloneable -/
def k13 : Class := { plain "java/lang/Cloneable" (some 0) with
  accessFlags := 1537
  interfaces := #[]
  cf := some (fileOf pool13 2 #[] #[] 1537 4 #[] #[])
  fields := #[]
  methods := #[]
  instanceTypes := #[]
  staticTypes := #[]
  resolved := Array.replicate 8 none
  statics := none }

/-- the primitive byte -/
def k14 : Class := { plain "byte" none with kind := .primitive 'B', accessFlags := 0x411 }
/-- [B -/
def k15 : Class := { plain "[B" (some 0) with kind := .array 14 .byte, interfaces := #[13, 2], accessFlags := 1041 }

/-- the primitive char -/
def k16 : Class := { plain "char" none with kind := .primitive 'C', accessFlags := 0x411 }
/-- [C -/
def k17 : Class := { plain "[C" (some 0) with kind := .array 16 .char, interfaces := #[13, 2], accessFlags := 1041 }

/-- the primitive int -/
def k18 : Class := { plain "int" none with kind := .primitive 'I', accessFlags := 0x411 }
/-- [I -/
def k19 : Class := { plain "[I" (some 0) with kind := .array 18 .int, interfaces := #[13, 2], accessFlags := 1041 }

/-- the primitive long -/
def k20 : Class := { plain "long" none with kind := .primitive 'J', accessFlags := 0x411 }
/-- [J -/
def k21 : Class := { plain "[J" (some 0) with kind := .array 20 .long, interfaces := #[13, 2], accessFlags := 1041 }

def heap : Heap := #[{ cls := 7, slots := #[.long 0, .int 1, .null, .int 0, .null, .int 0, .int 0], vm := .statics 7 },
  { cls := 11, slots := #[.null, .null, .null], vm := .statics 11 }]
def classes : Array Class := #[k0, k1, k2, k3, k4, k5, k6, k7, k8, k9, k10, k11, k12, k13, k14, k15, k16, k17, k18, k19, k20, k21]
def interned : List (Array UInt16 × Addr) := []
def slotsUsed : Nat := 10
def theMethod : MethodId := ⟨1, 2⟩
def args0 : Array Value := #[.long 5, .int 3, .int 4, .int 53, .int 6, .long 7]
def aboutOver (below : List Frame) : State where
  vm := { classes := classes, interned := interned.toArray }
  heap := heap
  slotsUsed := slotsUsed
  threads := #[{ frames := .invoking theMethod args0 :: below }]
def below0 : List Frame := [.native { method := ⟨0, 0⟩, args := #[] }]
def about1 : State := aboutOver below0
def p0 : Program := .bare "" "" ""
def e0 : Env := launch0.env 0 0 0
theorem w_frames : about1.frames = Frame.invoking theMethod args0 :: below0 := rfl
set_option maxRecDepth 65536 in
theorem w_args : argsFit about1.vm theMethod args0 = true := by decide +kernel
set_option maxRecDepth 65536 in
theorem w_heap : heapFits about1 = true := by decide +kernel
set_option maxRecDepth 65536 in
theorem w_runnable : about1.curStatus? = some .runnable := by decide +kernel
set_option maxRecDepth 65536 in
theorem w_alone : about1.alone = true := by decide +kernel
set_option maxRecDepth 65536 in
theorem w_named : about1.methodNamed? x = some theMethod := by decide +kernel
set_option maxRecDepth 65536 in
theorem w_hears : about1.hears theMethod below0 = true := by decide +kernel
set_option maxRecDepth 65536 in
theorem w_ripe : about1.ripe theMethod args0 below0 = true := by decide +kernel
theorem w_running : about1.status = .running := rfl
set_option maxRecDepth 65536 in
theorem w_room : about1.hasRoom e0.platform room_1 = true :=
  launch0.hasRoom_least _ room_1 (by decide +kernel) (by decide +kernel) (by decide +kernel) (by decide +kernel) (by decide +kernel) (by decide +kernel)
theorem allAtoms_all (ts : List Jvm.Cond) (a : Array Jvm.Value) (st : Jvm.State) : (allAtoms ts).before a st = ts.all (fun c => c.before a st) := by
  induction ts with
  | nil => rfl
  | cons c t ih =>
    show (Jvm.Cond.and c (allAtoms t)).before a st = _
    rw [Jvm.Cond.before_and, ih, List.all_cons]
def words1 : List Jvm.Cond := Jvm.Cond.code x code maxLocals ret :: tables_1
/-- a 'code' word, met by the world's own term for the bytes: nothing is compared byte by byte -/
theorem code_word {y : MethodName} {bytes : ByteArray} {mx : Nat} {rt : Option FieldType} {a : Array Value} {s : State} {m : MethodId} {meth : Method} {c : Code} (h1 : s.methodNamed? y = some m) (h2 : s.vm.method? m = some meth) (h3 : meth.code = some c) (h4 : c.code = bytes)
    (h5 : (c.maxLocals == mx && c.exceptionTable.isEmpty && decide (c.maxStack ≤ mostOperands) && decide (meth.sig.returnType = rt) && !meth.locks && decide (parseMethodDescriptor y.desc = some meth.sig)) = true) : (Jvm.Cond.code y bytes mx rt).before a s = true := by
  simp only [Bool.and_eq_true, beq_iff_eq, Bool.not_eq_true', decide_eq_true_eq] at h5
  obtain ⟨⟨⟨⟨⟨g1, g2⟩, g3⟩, g4⟩, g5⟩, g6⟩ := h5
  simp [Cond.before, Cond.holds, Cond.value, h1, h2, h3, h4, g1, g2, g3, g4, g5, g6]
def isCode : Jvm.Cond → Bool
  | .code _ _ _ _ => true
  | _ => false
theorem all_split {L : List Jvm.Cond} {P : Jvm.Cond → Bool} (h1 : L.all (fun c => isCode c || P c) = true) (h2 : ∀ c ∈ L.filter isCode, P c = true) : L.all P = true := by
  refine List.all_eq_true.mpr fun c hc => ?_
  have h := List.all_eq_true.mp h1 c hc
  rcases Bool.eq_false_or_eq_true (isCode c) with hi | hi
  · exact h2 c (List.mem_filter.mpr ⟨hc, hi⟩)
  · simpa [hi] using h
set_option maxRecDepth 65536 in
theorem w_c0 : (Jvm.Cond.code x code maxLocals ret).before args0 about1 = true := code_word (m := ⟨1, 2⟩) (meth := k1m2) (c := k1c2) (by decide +kernel) rfl rfl rfl (by decide +kernel)
set_option maxRecDepth 65536 in
theorem w_c1 : (Jvm.Cond.code ({ cls := "com/example/kontrakt/kontrakt/input/NumeralsCountPinLaw", name := "dig", desc := "(JIII[J)C" } : Jvm.MethodName) method_2_code (6 : Nat) (Option.some Jvm.ClassFile.FieldType.char)).before args0 about1 = true := code_word (m := ⟨1, 1⟩) (meth := k1m1) (c := k1c1) (by decide +kernel) rfl rfl rfl (by decide +kernel)
set_option maxRecDepth 65536 in
theorem w_c2 : (Jvm.Cond.code ({ cls := "java/lang/String", name := "<init>", desc := "([C)V" } : Jvm.MethodName) jdk_42_method_3_code (2 : Nat) (Option.none : Option Jvm.ClassFile.FieldType)).before args0 about1 = true := code_word (m := ⟨7, 1⟩) (meth := k7m1) (c := k7c1) (by decide +kernel) rfl rfl rfl (by decide +kernel)
set_option maxRecDepth 65536 in
theorem w_c3 : (Jvm.Cond.code ({ cls := "java/lang/String", name := "<init>", desc := "([CIILjava/lang/Void;)V" } : Jvm.MethodName) jdk_42_method_149_code (6 : Nat) (Option.none : Option Jvm.ClassFile.FieldType)).before args0 about1 = true := code_word (m := ⟨7, 6⟩) (meth := k7m6) (c := k7c6) (by decide +kernel) rfl rfl rfl (by decide +kernel)
set_option maxRecDepth 65536 in
theorem w_c4 : (Jvm.Cond.code ({ cls := "java/lang/Object", name := "<init>", desc := "()V" } : Jvm.MethodName) object_method_1_code (1 : Nat) (Option.none : Option Jvm.ClassFile.FieldType)).before args0 about1 = true := code_word (m := ⟨0, 0⟩) (meth := k0m0) (c := k0c0) (by decide +kernel) rfl rfl rfl (by decide +kernel)
set_option maxRecDepth 65536 in
theorem w_c5 : (Jvm.Cond.code ({ cls := "java/lang/StringUTF16", name := "compress", desc := "([CII)[B" } : Jvm.MethodName) jdk_52_method_16_code (6 : Nat) (Option.some (Jvm.ClassFile.FieldType.array Jvm.ClassFile.FieldType.byte))).before args0 about1 = true := code_word (m := ⟨8, 2⟩) (meth := k8m2) (c := k8c2) (by decide +kernel) rfl rfl rfl (by decide +kernel)
set_option maxRecDepth 65536 in
theorem w_c6 : (Jvm.Cond.code ({ cls := "java/lang/StringUTF16", name := "compress", desc := "([CI[BII)I" } : Jvm.MethodName) jdk_52_method_21_code (7 : Nat) (Option.some Jvm.ClassFile.FieldType.int)).before args0 about1 = true := code_word (m := ⟨8, 3⟩) (meth := k8m3) (c := k8c3) (by decide +kernel) rfl rfl rfl (by decide +kernel)
set_option maxRecDepth 65536 in
theorem w_c7 : (Jvm.Cond.code ({ cls := "java/lang/StringUTF16", name := "coderFromArrayLen", desc := "([BI)B" } : Jvm.MethodName) jdk_52_method_15_code (2 : Nat) (Option.some Jvm.ClassFile.FieldType.byte)).before args0 about1 = true := code_word (m := ⟨8, 1⟩) (meth := k8m1) (c := k8c1) (by decide +kernel) rfl rfl rfl (by decide +kernel)
set_option maxRecDepth 65536 in
theorem w_c8 : (Jvm.Cond.code ({ cls := "com/example/kontrakt/kontrakt/input/Numerals", name := "count", desc := "(Ljava/lang/String;J)J" } : Jvm.MethodName) prog_22_method_3_code (7 : Nat) (Option.some Jvm.ClassFile.FieldType.long)).before args0 about1 = true := code_word (m := ⟨9, 1⟩) (meth := k9m1) (c := k9c1) (by decide +kernel) rfl rfl rfl (by decide +kernel)
set_option maxRecDepth 65536 in
theorem w_c9 : (Jvm.Cond.code ({ cls := "com/example/kontrakt/kontrakt/input/Numerals", name := "isDigits", desc := "(Ljava/lang/String;)Z" } : Jvm.MethodName) prog_22_method_4_code (2 : Nat) (Option.some Jvm.ClassFile.FieldType.boolean)).before args0 about1 = true := code_word (m := ⟨9, 2⟩) (meth := k9m2) (c := k9c2) (by decide +kernel) rfl rfl rfl (by decide +kernel)
set_option maxRecDepth 65536 in
theorem w_c10 : (Jvm.Cond.code ({ cls := "java/lang/String", name := "length", desc := "()I" } : Jvm.MethodName) jdk_42_method_54_code (1 : Nat) (Option.some Jvm.ClassFile.FieldType.int)).before args0 about1 = true := code_word (m := ⟨7, 2⟩) (meth := k7m2) (c := k7c2) (by decide +kernel) rfl rfl rfl (by decide +kernel)
set_option maxRecDepth 65536 in
theorem w_c11 : (Jvm.Cond.code ({ cls := "java/lang/String", name := "coder", desc := "()B" } : Jvm.MethodName) jdk_42_method_152_code (1 : Nat) (Option.some Jvm.ClassFile.FieldType.byte)).before args0 about1 = true := code_word (m := ⟨7, 8⟩) (meth := k7m8) (c := k7c8) (by decide +kernel) rfl rfl rfl (by decide +kernel)
set_option maxRecDepth 65536 in
theorem w_c12 : (Jvm.Cond.code ({ cls := "java/lang/String", name := "charAt", desc := "(I)C" } : Jvm.MethodName) jdk_42_method_56_code (2 : Nat) (Option.some Jvm.ClassFile.FieldType.char)).before args0 about1 = true := code_word (m := ⟨7, 4⟩) (meth := k7m4) (c := k7c4) (by decide +kernel) rfl rfl rfl (by decide +kernel)
set_option maxRecDepth 65536 in
theorem w_c13 : (Jvm.Cond.code ({ cls := "java/lang/String", name := "isLatin1", desc := "()Z" } : Jvm.MethodName) jdk_42_method_154_code (1 : Nat) (Option.some Jvm.ClassFile.FieldType.boolean)).before args0 about1 = true := code_word (m := ⟨7, 9⟩) (meth := k7m9) (c := k7c9) (by decide +kernel) rfl rfl rfl (by decide +kernel)
set_option maxRecDepth 65536 in
theorem w_c14 : (Jvm.Cond.code ({ cls := "java/lang/StringLatin1", name := "charAt", desc := "([BI)C" } : Jvm.MethodName) jdk_43_method_2_code (2 : Nat) (Option.some Jvm.ClassFile.FieldType.char)).before args0 about1 = true := code_word (m := ⟨10, 1⟩) (meth := k10m1) (c := k10c1) (by decide +kernel) rfl rfl rfl (by decide +kernel)
set_option maxRecDepth 65536 in
theorem w_c15 : (Jvm.Cond.code ({ cls := "java/lang/String", name := "checkIndex", desc := "(II)V" } : Jvm.MethodName) jdk_42_method_155_code (2 : Nat) (Option.none : Option Jvm.ClassFile.FieldType)).before args0 about1 = true := code_word (m := ⟨7, 10⟩) (meth := k7m10) (c := k7c10) (by decide +kernel) rfl rfl rfl (by decide +kernel)
set_option maxRecDepth 65536 in
theorem w_c16 : (Jvm.Cond.code ({ cls := "jdk/internal/util/Preconditions", name := "checkIndex", desc := "(IILjava/util/function/BiFunction;)I" } : Jvm.MethodName) jdk_41_method_11_code (3 : Nat) (Option.some Jvm.ClassFile.FieldType.int)).before args0 about1 = true := code_word (m := ⟨11, 1⟩) (meth := k11m1) (c := k11c1) (by decide +kernel) rfl rfl rfl (by decide +kernel)
set_option maxRecDepth 65536 in
theorem w_c17 : (Jvm.Cond.code ({ cls := "java/lang/String", name := "isEmpty", desc := "()Z" } : Jvm.MethodName) jdk_42_method_55_code (1 : Nat) (Option.some Jvm.ClassFile.FieldType.boolean)).before args0 about1 = true := code_word (m := ⟨7, 3⟩) (meth := k7m3) (c := k7c3) (by decide +kernel) rfl rfl rfl (by decide +kernel)
set_option maxRecDepth 65536 in
theorem w_c18 : (Jvm.Cond.code ({ cls := "java/lang/String", name := "valueOf", desc := "(C)Ljava/lang/String;" } : Jvm.MethodName) jdk_42_method_139_code (1 : Nat) (Option.some (Jvm.ClassFile.FieldType.object "java/lang/String"))).before args0 about1 = true := code_word (m := ⟨7, 5⟩) (meth := k7m5) (c := k7c5) (by decide +kernel) rfl rfl rfl (by decide +kernel)
set_option maxRecDepth 65536 in
theorem w_c19 : (Jvm.Cond.code ({ cls := "java/lang/StringLatin1", name := "canEncode", desc := "(C)Z" } : Jvm.MethodName) jdk_43_method_3_code (1 : Nat) (Option.some Jvm.ClassFile.FieldType.boolean)).before args0 about1 = true := code_word (m := ⟨10, 2⟩) (meth := k10m2) (c := k10c2) (by decide +kernel) rfl rfl rfl (by decide +kernel)
set_option maxRecDepth 65536 in
theorem w_c20 : (Jvm.Cond.code ({ cls := "java/lang/StringLatin1", name := "toBytes", desc := "(C)[B" } : Jvm.MethodName) jdk_43_method_46_code (1 : Nat) (Option.some (Jvm.ClassFile.FieldType.array Jvm.ClassFile.FieldType.byte))).before args0 about1 = true := code_word (m := ⟨10, 3⟩) (meth := k10m3) (c := k10c3) (by decide +kernel) rfl rfl rfl (by decide +kernel)
set_option maxRecDepth 65536 in
theorem w_c21 : (Jvm.Cond.code ({ cls := "java/lang/String", name := "<init>", desc := "([BB)V" } : Jvm.MethodName) jdk_42_method_151_code (3 : Nat) (Option.none : Option Jvm.ClassFile.FieldType)).before args0 about1 = true := code_word (m := ⟨7, 7⟩) (meth := k7m7) (c := k7c7) (by decide +kernel) rfl rfl rfl (by decide +kernel)
def codes1 : List Jvm.Cond := [Jvm.Cond.code x code maxLocals ret, Jvm.Cond.code ({ cls := "com/example/kontrakt/kontrakt/input/NumeralsCountPinLaw", name := "dig", desc := "(JIII[J)C" } : Jvm.MethodName) method_2_code (6 : Nat) (Option.some Jvm.ClassFile.FieldType.char), Jvm.Cond.code ({ cls := "java/lang/String", name := "<init>", desc := "([C)V" } : Jvm.MethodName) jdk_42_method_3_code (2 : Nat) (Option.none : Option Jvm.ClassFile.FieldType), Jvm.Cond.code ({ cls := "java/lang/String", name := "<init>", desc := "([CIILjava/lang/Void;)V" } : Jvm.MethodName) jdk_42_method_149_code (6 : Nat) (Option.none : Option Jvm.ClassFile.FieldType), Jvm.Cond.code ({ cls := "java/lang/Object", name := "<init>", desc := "()V" } : Jvm.MethodName) object_method_1_code (1 : Nat) (Option.none : Option Jvm.ClassFile.FieldType), Jvm.Cond.code ({ cls := "java/lang/StringUTF16", name := "compress", desc := "([CII)[B" } : Jvm.MethodName) jdk_52_method_16_code (6 : Nat) (Option.some (Jvm.ClassFile.FieldType.array Jvm.ClassFile.FieldType.byte)), Jvm.Cond.code ({ cls := "java/lang/StringUTF16", name := "compress", desc := "([CI[BII)I" } : Jvm.MethodName) jdk_52_method_21_code (7 : Nat) (Option.some Jvm.ClassFile.FieldType.int), Jvm.Cond.code ({ cls := "java/lang/StringUTF16", name := "coderFromArrayLen", desc := "([BI)B" } : Jvm.MethodName) jdk_52_method_15_code (2 : Nat) (Option.some Jvm.ClassFile.FieldType.byte), Jvm.Cond.code ({ cls := "com/example/kontrakt/kontrakt/input/Numerals", name := "count", desc := "(Ljava/lang/String;J)J" } : Jvm.MethodName) prog_22_method_3_code (7 : Nat) (Option.some Jvm.ClassFile.FieldType.long), Jvm.Cond.code ({ cls := "com/example/kontrakt/kontrakt/input/Numerals", name := "isDigits", desc := "(Ljava/lang/String;)Z" } : Jvm.MethodName) prog_22_method_4_code (2 : Nat) (Option.some Jvm.ClassFile.FieldType.boolean), Jvm.Cond.code ({ cls := "java/lang/String", name := "length", desc := "()I" } : Jvm.MethodName) jdk_42_method_54_code (1 : Nat) (Option.some Jvm.ClassFile.FieldType.int), Jvm.Cond.code ({ cls := "java/lang/String", name := "coder", desc := "()B" } : Jvm.MethodName) jdk_42_method_152_code (1 : Nat) (Option.some Jvm.ClassFile.FieldType.byte), Jvm.Cond.code ({ cls := "java/lang/String", name := "charAt", desc := "(I)C" } : Jvm.MethodName) jdk_42_method_56_code (2 : Nat) (Option.some Jvm.ClassFile.FieldType.char), Jvm.Cond.code ({ cls := "java/lang/String", name := "isLatin1", desc := "()Z" } : Jvm.MethodName) jdk_42_method_154_code (1 : Nat) (Option.some Jvm.ClassFile.FieldType.boolean), Jvm.Cond.code ({ cls := "java/lang/StringLatin1", name := "charAt", desc := "([BI)C" } : Jvm.MethodName) jdk_43_method_2_code (2 : Nat) (Option.some Jvm.ClassFile.FieldType.char), Jvm.Cond.code ({ cls := "java/lang/String", name := "checkIndex", desc := "(II)V" } : Jvm.MethodName) jdk_42_method_155_code (2 : Nat) (Option.none : Option Jvm.ClassFile.FieldType), Jvm.Cond.code ({ cls := "jdk/internal/util/Preconditions", name := "checkIndex", desc := "(IILjava/util/function/BiFunction;)I" } : Jvm.MethodName) jdk_41_method_11_code (3 : Nat) (Option.some Jvm.ClassFile.FieldType.int), Jvm.Cond.code ({ cls := "java/lang/String", name := "isEmpty", desc := "()Z" } : Jvm.MethodName) jdk_42_method_55_code (1 : Nat) (Option.some Jvm.ClassFile.FieldType.boolean), Jvm.Cond.code ({ cls := "java/lang/String", name := "valueOf", desc := "(C)Ljava/lang/String;" } : Jvm.MethodName) jdk_42_method_139_code (1 : Nat) (Option.some (Jvm.ClassFile.FieldType.object "java/lang/String")), Jvm.Cond.code ({ cls := "java/lang/StringLatin1", name := "canEncode", desc := "(C)Z" } : Jvm.MethodName) jdk_43_method_3_code (1 : Nat) (Option.some Jvm.ClassFile.FieldType.boolean), Jvm.Cond.code ({ cls := "java/lang/StringLatin1", name := "toBytes", desc := "(C)[B" } : Jvm.MethodName) jdk_43_method_46_code (1 : Nat) (Option.some (Jvm.ClassFile.FieldType.array Jvm.ClassFile.FieldType.byte)), Jvm.Cond.code ({ cls := "java/lang/String", name := "<init>", desc := "([BB)V" } : Jvm.MethodName) jdk_42_method_151_code (3 : Nat) (Option.none : Option Jvm.ClassFile.FieldType)]
set_option maxRecDepth 65536 in
theorem codes_eq : words1.filter isCode = codes1 := rfl
theorem w_codes : ∀ c ∈ words1.filter isCode, c.before args0 about1 = true := by
  rw [codes_eq]
  intro c hc
  simp only [codes1, List.mem_cons, List.not_mem_nil, or_false] at hc
  rcases hc with rfl | rfl | rfl | rfl | rfl | rfl | rfl | rfl | rfl | rfl | rfl | rfl | rfl | rfl | rfl | rfl | rfl | rfl | rfl | rfl | rfl | rfl
  · exact w_c0
  · exact w_c1
  · exact w_c2
  · exact w_c3
  · exact w_c4
  · exact w_c5
  · exact w_c6
  · exact w_c7
  · exact w_c8
  · exact w_c9
  · exact w_c10
  · exact w_c11
  · exact w_c12
  · exact w_c13
  · exact w_c14
  · exact w_c15
  · exact w_c16
  · exact w_c17
  · exact w_c18
  · exact w_c19
  · exact w_c20
  · exact w_c21
set_option maxRecDepth 65536 in
theorem w_t1 : (words1.take 24).all (fun c => isCode c || c.before args0 about1) = true := by decide +kernel
set_option maxRecDepth 65536 in
theorem w_t2 : ((words1.drop 24).take 24).all (fun c => isCode c || c.before args0 about1) = true := by decide +kernel
set_option maxRecDepth 65536 in
theorem w_t3 : (((words1.drop 24).drop 24).take 24).all (fun c => isCode c || c.before args0 about1) = true := by decide +kernel
set_option maxRecDepth 65536 in
theorem w_t4 : ((((words1.drop 24).drop 24).drop 24).take 24).all (fun c => isCode c || c.before args0 about1) = true := by decide +kernel
set_option maxRecDepth 65536 in
theorem w_t5 : ((((words1.drop 24).drop 24).drop 24).drop 24).all (fun c => isCode c || c.before args0 about1) = true := by decide +kernel
theorem w_tables : (allAtoms (Jvm.Cond.code x code maxLocals ret :: tables_1)).before args0 about1 = true := by
  rw [allAtoms_all]
  show words1.all (fun c => c.before args0 about1) = true
  refine all_split ?_ w_codes
  rw [← List.take_append_drop 24 words1, List.all_append, w_t1, ← List.take_append_drop 24 (words1.drop 24), List.all_append, w_t2, ← List.take_append_drop 24 ((words1.drop 24).drop 24), List.all_append, w_t3, ← List.take_append_drop 24 (((words1.drop 24).drop 24).drop 24), List.all_append, w_t4, w_t5]
  rfl
set_option maxRecDepth 65536 in
theorem w_rest : rest_1_c.before args0 about1 = true := by decide +kernel
set_option maxRecDepth 65536 in
theorem w_case : (Jvm.Cond.and given_1 narrow_1).before args0 about1 = true := by decide +kernel
theorem w_applies : (headSpec (Jvm.Cond.code x code maxLocals ret :: tables_1) room_1).applies x e0.platform about1 = true :=
  (Spec.applies_iff w_frames).mpr ⟨w_running, w_runnable, w_alone, w_named, w_hears, w_ripe, w_room, w_tables⟩
theorem atStart : AtStart classFile x code maxLocals ret World_1 tables_1 room_1 Calls_1 rest_1 Pre_1 launch0 p0 e0 about1 theMethod args0 below0 :=
  ⟨lists_1, trivial, launch0.admits_env _ _ _, launch0.least_env, fairChoices_fair.cas, fairChoices_fair.clock, w_frames, w_args, w_heap, w_applies, trivial, w_rest, w_case⟩
end start1
theorem witness_1 : WitnessClaimed_1 := ⟨start1.p0, start1.e0, start1.about1, start1.theMethod, start1.args0, start1.below0, start1.atStart⟩
end Jvm.Pilot.@@N@@
