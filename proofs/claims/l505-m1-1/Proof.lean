import JvmDerived
import JvmDerived.Pilot.@@N@@Statement
import JvmDerived.Pilot.@@N@@Code
set_option linter.unusedVariables false
set_option linter.unusedSimpArgs false
@@BLOCK:NumsL.lean.txt@@
namespace Jvm.RoadKit
open Sem ClassFile Op Lib Jvm.Stand Jvm.Free Jvm.LawKit
section New
variable {p : Program} {l : Launch} {e : Env} {R : Room} {s : State} {m : MethodId} {args : Array Value} {below : List Frame} {meth : Method} {c : Code} {T : State} {locs : List Loc} {cells slots : Nat}
theorem retI (X : Stand p l e R s m args below meth c T locs cells slots) (hx : p.tables.exec = Jvm.exec) {pc : Nat} {Ls : Array Slot} {z : Int32} {rest : List Value} (hret : meth.sig.returnType = some .int) (hd : decode c.code pc = .ok (.ireturn, 1)) {fs : List Frame}
    (hl : ∀ (f : JFrame) (acts : List Action), f.method = m → f.locked = none → f.entered = [] → (doReturn e (T.setTop f) acts (some (.int z))).1 = T.setFrames fs) : Steps p.tables e below (T.setTop (mkF m pc Ls (.int z :: rest))) (T.setFrames fs) := by
  have hm' : T.vm.method? m = some meth := X.method'
  have hn : narrow .int (.int z) = .int z := rfl
  show Steps p.tables e below (T.setTop { method := m, pc := pc, locals := Ls, stack := _ :: rest, locked := none }) _
  jvm_step X.here [X.here.top, hx, hd, hm', hret, hn]
  first | (intro acts; rw [hl _ acts rfl rfl rfl]) | rw [hl _ _ rfl rfl rfl]
  exact Steps.refl _
end New
end Jvm.RoadKit
namespace Jvm.Pilot.@@N@@
open Jvm Jvm.ClassFile Sem Op Lib Jvm.Free Jvm.Stand Jvm.LawKit Jvm.RoadKit Bundle Jvm.Pilot.@@N@@.Jvm.D
/-! own text: doubles as whole numbers of 2^-1074 (own_Fin), what a double can hold (own_Rep), and the four operations by bounds -/
def own_Rep (z : Int) : Prop := ∃ (s : Bool) (c : Nat) (q : Int), FP.Core.fits FP.Core.b64 (.fin s c q) ∧ FP.Core.zval FP.Core.b64 (.fin s c q) = z
def own_Fin (a : UInt64) (z : Int) : Prop := FP.Core.DFin a ∧ FP.Core.zval FP.Core.b64 (FP.Core.val64 a) = z
def own_U : Int := ((FP.Core.one64 : Nat) : Int)
theorem own_U_pos : 0 < own_U := Int.natCast_pos.mpr FP.Core.one64_pos
theorem own_U_lit : own_U = 202402253307310618352495346718917307049556649764142118356901358027430339567995346891960383701437124495187077864316811911389808737385793476867013399940738509921517424276566361364466907742093216341239767678472745068562007483424692698618103355649159556340810056512358769552333414615230502532186327508646006263307707741093494784 := by decide +kernel
theorem own_Fin.rep {a : UInt64} {z : Int} (h : own_Fin a z) : own_Rep z := by
  obtain ⟨⟨s, c, q, e⟩, h⟩ := h
  refine ⟨s, c, q, ?_, ?_⟩
  · rw [← e]; exact FP.Core.val64_fits a
  · rw [← e]; exact h
theorem own_Fin.ne {a : UInt64} {z : Int} (h : own_Fin a z) : FP.Core.val64 a ≠ .nan := h.1.ne_nan
theorem own_Fin.nn {a : UInt64} {z : Int} (h : own_Fin a z) : Jvm.Free.Fl.NoNaN64 a := Jvm.Free.Fl.val64_no.mpr h.ne
def own_Val (a : UInt64) (z : Int) : Prop := FP.Core.val64 a ≠ .nan ∧ FP.Core.zval FP.Core.b64 (FP.Core.val64 a) = z
theorem own_Fin.v {a : UInt64} {z : Int} (h : own_Fin a z) : own_Val a z := ⟨h.ne, h.2⟩
theorem own_Val.nn {a : UInt64} {z : Int} (h : own_Val a z) : Jvm.Free.Fl.NoNaN64 a := Jvm.Free.Fl.val64_no.mpr h.1
theorem own_Fin.cast {a : UInt64} {z w : Int} (h : own_Fin a z) (e : z = w) : own_Fin a w := e ▸ h
theorem own_signed_le (s : Bool) (n : Nat) : FP.Core.signed s n ≤ (n : Int) ∧ -(n : Int) ≤ FP.Core.signed s n := by
  cases s <;> simp only [FP.Core.signed, if_true, Bool.false_eq_true, if_false] <;> omega
theorem own_zval_inf (f : FP.Core.Fmt) (s : Bool) : FP.Core.zval f (.inf s) = FP.Core.signed s (f.tails * 2 ^ (f.exps - 2)) := rfl
theorem own_zval_fin (f : FP.Core.Fmt) (s : Bool) (c : Nat) (q : Int) : FP.Core.zval f (.fin s c q) = FP.Core.signed s (FP.Core.inUnits c q f.qmin) := rfl
theorem own_Rep.lt {z : Int} (h : own_Rep z) : z < ((FP.Core.b64.tails * 2 ^ (FP.Core.b64.exps - 2) : Nat) : Int) ∧ -((FP.Core.b64.tails * 2 ^ (FP.Core.b64.exps - 2) : Nat) : Int) < z := by
  obtain ⟨s, c, q, hf, rfl⟩ := h
  have h1 := FP.Core.zmag_lt_top FP.Core.good_b64 hf
  have h2 := own_signed_le s (FP.Core.inUnits c q FP.Core.b64.qmin)
  rw [own_zval_fin]
  generalize FP.Core.inUnits c q FP.Core.b64.qmin = n at *
  generalize FP.Core.b64.tails * 2 ^ (FP.Core.b64.exps - 2) = t at *
  omega
theorem own_fin_of {r : UInt64} {lo hi : Int} (hn : FP.Core.val64 r ≠ .nan) (rl : own_Rep lo) (rh : own_Rep hi) (h1 : lo ≤ FP.Core.zval FP.Core.b64 (FP.Core.val64 r)) (h2 : FP.Core.zval FP.Core.b64 (FP.Core.val64 r) ≤ hi) :
    ∃ z, own_Fin r z ∧ lo ≤ z ∧ z ≤ hi := by
  refine ⟨_, ⟨?_, rfl⟩, h1, h2⟩
  have a := rl.lt
  have b := rh.lt
  cases hv : FP.Core.val64 r with
  | nan => exact absurd hv hn
  | fin s c q => exact ⟨s, c, q, hv⟩
  | inf s =>
    exfalso
    rw [hv, own_zval_inf] at h1 h2
    generalize FP.Core.b64.tails * 2 ^ (FP.Core.b64.exps - 2) = t at *
    cases s <;> simp only [FP.Core.signed, if_true, Bool.false_eq_true, if_false] at h1 h2 <;> omega
theorem own_add {a b : UInt64} {x y lo hi : Int} (ha : own_Fin a x) (hb : own_Fin b y) (rl : own_Rep lo) (rh : own_Rep hi) (h1 : lo ≤ x + y) (h2 : x + y ≤ hi) : ∃ z, own_Fin (FP.dadd a b) z ∧ lo ≤ z ∧ z ≤ hi := by
  obtain ⟨s1, c1, q1, f1, e1⟩ := id rl
  obtain ⟨s2, c2, q2, f2, e2⟩ := id rh
  have ev : FP.Core.val64 (FP.dadd a b) = _ := FP.Core.val64_dadd a b
  refine own_fin_of ((FP.Core.notNaN_iff _).mp (FP.Core.dadd_out ha.1.notNaN hb.1)) rl rh ?_ ?_
  · rw [ev, ← e1]
    exact FP.Core.sum_ge FP.Core.good_b64 ha.1 hb.1 (FP.Core.val64_fits a) (FP.Core.val64_fits b) f1 (fun q => nomatch q) (by rw [e1, ha.2, hb.2]; exact h1)
  · rw [ev, ← e2]
    exact FP.Core.sum_le FP.Core.good_b64 ha.1 hb.1 (FP.Core.val64_fits a) (FP.Core.val64_fits b) f2 (fun q => nomatch q) (by rw [e2, ha.2, hb.2]; exact h2)
theorem own_add_e {a b : UInt64} {x y : Int} (ha : own_Fin a x) (hb : own_Fin b y) (r : own_Rep (x + y)) : own_Fin (FP.dadd a b) (x + y) := by
  obtain ⟨z, h, h1, h2⟩ := own_add ha hb r r (Int.le_refl _) (Int.le_refl _)
  exact h.cast (Int.le_antisymm h2 h1)
theorem own_fin_negate {d : FP.Core.Datum} (h : ∃ s c q, d = .fin s c q) : ∃ s c q, FP.Core.negate d = .fin s c q := by
  obtain ⟨s, c, q, rfl⟩ := h
  exact ⟨!s, c, q, rfl⟩
theorem own_sub {a b : UInt64} {x y lo hi : Int} (ha : own_Fin a x) (hb : own_Fin b y) (rl : own_Rep lo) (rh : own_Rep hi) (h1 : lo ≤ x - y) (h2 : x - y ≤ hi) : ∃ z, own_Fin (FP.dsub a b) z ∧ lo ≤ z ∧ z ≤ hi := by
  obtain ⟨s1, c1, q1, f1, e1⟩ := id rl
  obtain ⟨s2, c2, q2, f2, e2⟩ := id rh
  have ev : FP.Core.val64 (FP.dsub a b) = _ := FP.Core.val64_dsub a b
  refine own_fin_of ((FP.Core.notNaN_iff _).mp (FP.Core.dsub_out ha.1.notNaN hb.1)) rl rh ?_ ?_
  · rw [ev, ← e1]
    exact FP.Core.sum_ge FP.Core.good_b64 ha.1 (own_fin_negate hb.1) (FP.Core.val64_fits a) (FP.Core.negate_fits (FP.Core.val64_fits b)) f1 (fun q => nomatch q) (by rw [e1, ha.2, FP.Core.zval_negate, hb.2]; omega)
  · rw [ev, ← e2]
    exact FP.Core.sum_le FP.Core.good_b64 ha.1 (own_fin_negate hb.1) (FP.Core.val64_fits a) (FP.Core.negate_fits (FP.Core.val64_fits b)) f2 (fun q => nomatch q) (by rw [e2, ha.2, FP.Core.zval_negate, hb.2]; omega)
theorem own_sub_e {a b : UInt64} {x y : Int} (ha : own_Fin a x) (hb : own_Fin b y) (r : own_Rep (x - y)) : own_Fin (FP.dsub a b) (x - y) := by
  obtain ⟨z, h, h1, h2⟩ := own_sub ha hb r r (Int.le_refl _) (Int.le_refl _)
  exact h.cast (Int.le_antisymm h2 h1)
theorem own_qq : (FP.Core.b64.qmin - 2 * FP.Core.b64.qmin).toNat = (-FP.Core.b64.qmin).toNat := by rw [FP.Core.qmin_b64]; rfl
theorem own_mul_ge {a b : UInt64} {x y lo : Int} (ha : own_Fin a x) (hb : own_Fin b y) (rl : own_Rep lo) (h1 : lo * own_U ≤ x * y) : lo ≤ FP.Core.zval FP.Core.b64 (FP.Core.val64 (FP.dmul a b)) := by
  obtain ⟨s1, c1, q1, f1, e1⟩ := id rl
  obtain ⟨s, c, q, ea⟩ := id ha.1
  obtain ⟨t, d, r, eb⟩ := id hb.1
  have fa := FP.Core.val64_fits a
  have fb := FP.Core.val64_fits b
  have za := ha.2
  have zb := hb.2
  have ev : FP.Core.val64 (FP.dmul a b) = _ := FP.Core.val64_dmul a b
  rw [ea] at fa za ev
  rw [eb] at fb zb ev
  obtain ⟨p1, p2, p3⟩ := FP.Core.product_units fa fb
  rw [p1] at ev
  have hq : 2 * FP.Core.b64.qmin ≤ FP.Core.b64.qmin := by rw [FP.Core.qmin_b64]; decide
  have hs : FP.Core.signed (s != t) (FP.Core.inUnits (c * d) (q + r) (2 * FP.Core.b64.qmin)) = x * y := by
    rw [p3, FP.Core.signed_xor, ← za, ← zb]; rfl
  have hu : ((2 ^ (FP.Core.b64.qmin - 2 * FP.Core.b64.qmin).toNat : Nat) : Int) = own_U := by rw [own_qq, FP.Core.pow_qmin64]; rfl
  rw [ev, ← e1]
  exact FP.Core.zval_round_ge FP.Core.good_b64 f1 (fun q => nomatch q) hq p2 (by rw [hs, hu, e1]; exact h1)
theorem own_mul_le {a b : UInt64} {x y hi : Int} (ha : own_Fin a x) (hb : own_Fin b y) (rh : own_Rep hi) (h2 : x * y ≤ hi * own_U) : FP.Core.zval FP.Core.b64 (FP.Core.val64 (FP.dmul a b)) ≤ hi := by
  obtain ⟨s2, c2, q2, f2, e2⟩ := id rh
  obtain ⟨s, c, q, ea⟩ := id ha.1
  obtain ⟨t, d, r, eb⟩ := id hb.1
  have fa := FP.Core.val64_fits a
  have fb := FP.Core.val64_fits b
  have za := ha.2
  have zb := hb.2
  have ev : FP.Core.val64 (FP.dmul a b) = _ := FP.Core.val64_dmul a b
  rw [ea] at fa za ev
  rw [eb] at fb zb ev
  obtain ⟨p1, p2, p3⟩ := FP.Core.product_units fa fb
  rw [p1] at ev
  have hq : 2 * FP.Core.b64.qmin ≤ FP.Core.b64.qmin := by rw [FP.Core.qmin_b64]; decide
  have hs : FP.Core.signed (s != t) (FP.Core.inUnits (c * d) (q + r) (2 * FP.Core.b64.qmin)) = x * y := by
    rw [p3, FP.Core.signed_xor, ← za, ← zb]; rfl
  have hu : ((2 ^ (FP.Core.b64.qmin - 2 * FP.Core.b64.qmin).toNat : Nat) : Int) = own_U := by rw [own_qq, FP.Core.pow_qmin64]; rfl
  rw [ev, ← e2]
  exact FP.Core.zval_round_le FP.Core.good_b64 f2 (fun q => nomatch q) hq p2 (by rw [hs, hu, e2]; exact h2)
theorem own_mul_ne {a b : UInt64} {x y : Int} (ha : own_Fin a x) (hb : own_Fin b y) : FP.Core.val64 (FP.dmul a b) ≠ .nan := (FP.Core.notNaN_iff _).mp (FP.Core.dmul_out ha.1 hb.1)
theorem own_mul {a b : UInt64} {x y lo hi : Int} (ha : own_Fin a x) (hb : own_Fin b y) (rl : own_Rep lo) (rh : own_Rep hi) (h1 : lo * own_U ≤ x * y) (h2 : x * y ≤ hi * own_U) : ∃ z, own_Fin (FP.dmul a b) z ∧ lo ≤ z ∧ z ≤ hi :=
  own_fin_of (own_mul_ne ha hb) rl rh (own_mul_ge ha hb rl h1) (own_mul_le ha hb rh h2)
theorem own_mul_e {a b : UInt64} {x y z : Int} (ha : own_Fin a x) (hb : own_Fin b y) (r : own_Rep z) (e : x * y = z * own_U) : own_Fin (FP.dmul a b) z := by
  obtain ⟨w, h, h1, h2⟩ := own_mul ha hb r r (Int.le_of_eq e.symm) (Int.le_of_eq e)
  exact h.cast (Int.le_antisymm h2 h1)
theorem own_ratio_units {c d : Nat} {q r m : Int} (hq : m ≤ q) (hr : m ≤ r) (hm : m < 0) :
    FP.Core.inUnits c (q - r) (m + m - r) = FP.Core.inUnits c q m * 2 ^ (-m).toNat ∧ ∀ v : Nat, v * 2 ^ (m - (m + m - r)).toNat * d = v * FP.Core.inUnits d r m := by
  constructor
  · unfold FP.Core.inUnits
    rw [show (q - r - (m + m - r)).toNat = (q - m).toNat + (-m).toNat by omega, Nat.pow_add, Nat.mul_assoc]
  · intro v
    unfold FP.Core.inUnits
    rw [show (m - (m + m - r)).toNat = (r - m).toNat by omega, Nat.mul_assoc, Nat.mul_comm d]
theorem own_ratio_le {s s' t : Bool} {c d : Nat} {q r : Int} {V : FP.Core.Datum} (hx : FP.Core.fits FP.Core.b64 (.fin s c q)) (hy : FP.Core.fits FP.Core.b64 (.fin t d r)) (hd : 0 < d) (hV : FP.Core.fits FP.Core.b64 V) (hn : V ≠ .nan)
    (h : FP.Core.inUnits c q FP.Core.b64.qmin * FP.Core.one64 ≤ FP.Core.zmag FP.Core.b64 V * FP.Core.inUnits d r FP.Core.b64.qmin) : FP.Core.zmag FP.Core.b64 (FP.Core.roundRatio FP.Core.b64 s' c d (q - r)) ≤ FP.Core.zmag FP.Core.b64 V := by
  have hm : FP.Core.b64.qmin < 0 := by rw [FP.Core.qmin_b64]; decide
  obtain ⟨u1, u2⟩ := own_ratio_units (c := c) (d := d) hx.2.1 hy.2.1 hm
  have hqx := hx.2.1
  have hqy := hy.2.1
  refine FP.Core.zmag_roundRatio_le FP.Core.good_b64 (e0 := FP.Core.b64.qmin + FP.Core.b64.qmin - r) hd hV hn (by omega) (by omega) ?_
  rw [u1, u2, FP.Core.pow_qmin64]; exact h
theorem own_ratio_ge {s s' t : Bool} {c d : Nat} {q r : Int} {V : FP.Core.Datum} (hx : FP.Core.fits FP.Core.b64 (.fin s c q)) (hy : FP.Core.fits FP.Core.b64 (.fin t d r)) (hd : 0 < d) (hV : FP.Core.fits FP.Core.b64 V)
    (h : FP.Core.zmag FP.Core.b64 V * FP.Core.inUnits d r FP.Core.b64.qmin ≤ FP.Core.inUnits c q FP.Core.b64.qmin * FP.Core.one64) : FP.Core.zmag FP.Core.b64 V ≤ FP.Core.zmag FP.Core.b64 (FP.Core.roundRatio FP.Core.b64 s' c d (q - r)) := by
  have hm : FP.Core.b64.qmin < 0 := by rw [FP.Core.qmin_b64]; decide
  obtain ⟨u1, u2⟩ := own_ratio_units (c := c) (d := d) hx.2.1 hy.2.1 hm
  have hqx := hx.2.1
  have hqy := hy.2.1
  refine FP.Core.zmag_roundRatio_ge FP.Core.good_b64 (e0 := FP.Core.b64.qmin + FP.Core.b64.qmin - r) hd hV (by omega) (by omega) ?_
  rw [u1, u2, FP.Core.pow_qmin64]; exact h
theorem own_quot {a b : UInt64} {y : Int} {s : Bool} {c : Nat} {q : Int} (ea : FP.Core.val64 a = .fin s c q) (hb : own_Fin b y) (hy : 0 < y) :
    ∃ d r, FP.Core.val64 b = .fin false d r ∧ 0 < d ∧ y = ((FP.Core.inUnits d r FP.Core.b64.qmin : Nat) : Int) ∧ FP.Core.val64 (FP.ddiv a b) = FP.Core.roundRatio FP.Core.b64 s c d (q - r) := by
  obtain ⟨t, d, r, eb⟩ := id hb.1
  have zb := hb.2
  rw [eb, own_zval_fin] at zb
  obtain ⟨k1, k2⟩ := FP.Core.signed_pos (s := t) (m := FP.Core.inUnits d r FP.Core.b64.qmin) (by rw [zb]; exact hy)
  have ht : t = false := by
    cases t with
    | false => rfl
    | true =>
      simp only [FP.Core.signed, if_true] at k1; omega
  subst ht
  have hd : 0 < d := by
    rcases Nat.eq_zero_or_pos d with h | h
    · subst h; unfold FP.Core.inUnits at k2; omega
    · exact h
  refine ⟨d, r, eb, hd, by rw [← zb, k1], ?_⟩
  have ev : FP.Core.val64 (FP.ddiv a b) = _ := FP.Core.val64_ddiv a b
  rw [ea, eb] at ev
  rw [ev]
  show (if d = 0 then _ else FP.Core.roundRatio FP.Core.b64 (s != false) c d (q - r)) = _
  rw [if_neg (Nat.pos_iff_ne_zero.mp hd)]
  cases s <;> rfl
theorem own_div_le {a b : UInt64} {x y hi : Int} (ha : own_Fin a x) (hb : own_Fin b y) (hy : 0 < y) (rh : own_Rep hi) (h2 : x * own_U ≤ hi * y) : FP.Core.zval FP.Core.b64 (FP.Core.val64 (FP.ddiv a b)) ≤ hi := by
  obtain ⟨s2, c2, q2, f2, e2⟩ := id rh
  obtain ⟨s, c, q, ea⟩ := id ha.1
  obtain ⟨d, r, eb, hd, ey, ev⟩ := own_quot ea hb hy
  have fa := FP.Core.val64_fits a
  have fb := FP.Core.val64_fits b
  have za := ha.2
  rw [ea] at fa za
  rw [eb] at fb
  have l1 := own_ratio_le (s' := s) fa fb hd f2 (fun q => nomatch q)
  have l2 := own_ratio_ge (s' := s) fa fb hd f2
  have hY : 0 < FP.Core.inUnits d r FP.Core.b64.qmin := by omega
  rw [ev, ← e2]
  unfold FP.Core.zval
  rw [FP.Core.sgn_roundRatio]
  rw [own_zval_fin] at za
  have e2' : FP.Core.signed s2 (FP.Core.zmag FP.Core.b64 (.fin s2 c2 q2)) = hi := e2
  show FP.Core.signed s _ ≤ FP.Core.signed s2 _
  rw [← e2', ← za, ey] at h2
  unfold own_U at h2
  rw [← FP.Core.signed_mul, ← FP.Core.signed_mul] at h2
  generalize FP.Core.zmag FP.Core.b64 (FP.Core.roundRatio FP.Core.b64 s c d (q - r)) = zR at *
  generalize FP.Core.zmag FP.Core.b64 (.fin s2 c2 q2) = v at *
  have hz : v * FP.Core.inUnits d r FP.Core.b64.qmin = 0 → v = 0 := fun h => (Nat.mul_eq_zero.mp h).resolve_right (by omega)
  generalize v * FP.Core.inUnits d r FP.Core.b64.qmin = B at *
  generalize FP.Core.inUnits c q FP.Core.b64.qmin * FP.Core.one64 = A at *
  cases s <;> cases s2 <;> simp only [FP.Core.signed, if_true, Bool.false_eq_true, if_false] at h2 ⊢
  · have := l1 (by omega); omega
  · have := l1 (by omega); have := hz (by omega); omega
  · omega
  · have := l2 (by omega); omega
theorem own_neg {a : UInt64} {x : Int} (ha : own_Fin a x) : own_Fin (FP.dneg a) (-x) := by
  have e : FP.Core.val64 (FP.dneg a) = _ := FP.val64_dneg a
  refine ⟨?_, ?_⟩
  · show ∃ s c q, _ = _
    rw [e]; exact own_fin_negate ha.1
  · rw [e, FP.Core.zval_negate, ha.2]
theorem own_div_ge {a b : UInt64} {x y lo : Int} (ha : own_Fin a x) (hb : own_Fin b y) (hy : 0 < y) (rl : own_Rep lo) (h1 : lo * y ≤ x * own_U) : lo ≤ FP.Core.zval FP.Core.b64 (FP.Core.val64 (FP.ddiv a b)) := by
  obtain ⟨s2, c2, q2, f2, e2⟩ := id rl
  obtain ⟨s, c, q, ea⟩ := id ha.1
  obtain ⟨d, r, eb, hd, ey, ev⟩ := own_quot ea hb hy
  have fa := FP.Core.val64_fits a
  have fb := FP.Core.val64_fits b
  have za := ha.2
  rw [ea] at fa za
  rw [eb] at fb
  have l1 := own_ratio_le (s' := s) fa fb hd f2 (fun q => nomatch q)
  have l2 := own_ratio_ge (s' := s) fa fb hd f2
  have hY : 0 < FP.Core.inUnits d r FP.Core.b64.qmin := by omega
  rw [ev, ← e2]
  unfold FP.Core.zval
  rw [FP.Core.sgn_roundRatio]
  rw [own_zval_fin] at za
  have e2' : FP.Core.signed s2 (FP.Core.zmag FP.Core.b64 (.fin s2 c2 q2)) = lo := e2
  show FP.Core.signed s2 _ ≤ FP.Core.signed s _
  rw [← e2', ← za, ey] at h1
  unfold own_U at h1
  rw [← FP.Core.signed_mul, ← FP.Core.signed_mul] at h1
  generalize FP.Core.zmag FP.Core.b64 (FP.Core.roundRatio FP.Core.b64 s c d (q - r)) = zR at *
  generalize FP.Core.zmag FP.Core.b64 (.fin s2 c2 q2) = v at *
  have hz : v * FP.Core.inUnits d r FP.Core.b64.qmin = 0 → v = 0 := fun h => (Nat.mul_eq_zero.mp h).resolve_right (by omega)
  generalize v * FP.Core.inUnits d r FP.Core.b64.qmin = B at *
  generalize FP.Core.inUnits c q FP.Core.b64.qmin * FP.Core.one64 = A at *
  cases s <;> cases s2 <;> simp only [FP.Core.signed, if_true, Bool.false_eq_true, if_false] at h1 ⊢
  · have := l2 (by omega); omega
  · omega
  · have := l1 (by omega); have := hz (by omega); omega
  · have := l1 (by omega); omega
theorem own_div {a b : UInt64} {x y lo hi : Int} (ha : own_Fin a x) (hb : own_Fin b y) (hy : 0 < y) (rl : own_Rep lo) (rh : own_Rep hi) (h1 : lo * y ≤ x * own_U) (h2 : x * own_U ≤ hi * y) : ∃ z, own_Fin (FP.ddiv a b) z ∧ lo ≤ z ∧ z ≤ hi := by
  refine own_fin_of ?_ rl rh (own_div_ge ha hb hy rl h1) (own_div_le ha hb hy rh h2)
  obtain ⟨s, c, q, ea⟩ := id ha.1
  obtain ⟨d, r, eb, hd, ey, ev⟩ := own_quot ea hb hy
  rw [ev]; exact FP.Core.roundRatio_ne_nan _ _ _ _ _
theorem own_div_e {a b : UInt64} {x y z : Int} (ha : own_Fin a x) (hb : own_Fin b y) (hy : 0 < y) (r : own_Rep z) (e : x * own_U = z * y) : own_Fin (FP.ddiv a b) z := by
  obtain ⟨w, h, h1, h2⟩ := own_div ha hb hy r r (Int.le_of_eq e.symm) (Int.le_of_eq e)
  exact h.cast (Int.le_antisymm h2 h1)
/-- quotients of one value are one double -/
theorem own_div_same {a b a' b' : UInt64} {x y x' y' : Int} (ha : own_Fin a x) (hb : own_Fin b y) (ha' : own_Fin a' x') (hb' : own_Fin b' y') (hx : 0 < x) (hx' : 0 < x') (hy : 0 < y) (hy' : 0 < y') (e : x * y' = x' * y) : FP.Core.val64 (FP.ddiv a b) = FP.Core.val64 (FP.ddiv a' b') := by
  obtain ⟨s, c, q, ea⟩ := id ha.1
  obtain ⟨d, r, eb, hd, ey, ev⟩ := own_quot ea hb hy
  obtain ⟨s', c', q', ea'⟩ := id ha'.1
  obtain ⟨d', r', eb', hd', ey', ev'⟩ := own_quot ea' hb' hy'
  have za := ha.2
  have za' := ha'.2
  have fa := FP.Core.val64_fits a
  have fb := FP.Core.val64_fits b
  have fa' := FP.Core.val64_fits a'
  have fb' := FP.Core.val64_fits b'
  rw [ea] at za fa
  rw [ea'] at za' fa'
  rw [eb] at fb
  rw [eb'] at fb'
  rw [own_zval_fin] at za za'
  obtain ⟨k1, k2⟩ := FP.Core.signed_pos (s := s) (m := FP.Core.inUnits c q FP.Core.b64.qmin) (by rw [za]; exact hx)
  obtain ⟨k1', k2'⟩ := FP.Core.signed_pos (s := s') (m := FP.Core.inUnits c' q' FP.Core.b64.qmin) (by rw [za']; exact hx')
  have hs : s = false := by
    cases s with
    | false => rfl
    | true => simp only [FP.Core.signed, if_true] at k1; omega
  have hs' : s' = false := by
    cases s' with
    | false => rfl
    | true => simp only [FP.Core.signed, if_true] at k1'; omega
  subst hs hs'
  rw [ev, ev']
  have E : FP.Core.inUnits c q FP.Core.b64.qmin * FP.Core.inUnits d' r' FP.Core.b64.qmin = FP.Core.inUnits c' q' FP.Core.b64.qmin * FP.Core.inUnits d r FP.Core.b64.qmin := by
    have h : ((FP.Core.inUnits c q FP.Core.b64.qmin * FP.Core.inUnits d' r' FP.Core.b64.qmin : Nat) : Int) = ((FP.Core.inUnits c' q' FP.Core.b64.qmin * FP.Core.inUnits d r FP.Core.b64.qmin : Nat) : Int) := by
      rw [Int.natCast_mul, Int.natCast_mul, ← k1, ← k1', za, za', ← ey, ← ey']; exact e
    exact Int.ofNat_inj.mp h
  have g1 := fa.2.1
  have g2 := fb.2.1
  have g3 := fa'.2.1
  have g4 := fb'.2.1
  generalize FP.Core.b64.qmin = m at *
  refine FP.Core.roundRatio_congr hd hd' ?_
  unfold FP.Core.inUnits at E
  generalize ha1 : (q - m).toNat = A1 at *
  generalize ha2 : (r - m).toNat = A2 at *
  generalize ha3 : (q' - m).toNat = A3 at *
  generalize ha4 : (r' - m).toNat = A4 at *
  have E' : c * d' * 2 ^ (A1 + A4) = c' * d * 2 ^ (A3 + A2) := by
    rw [Nat.pow_add, Nat.pow_add]
    calc c * d' * (2 ^ A1 * 2 ^ A4) = c * 2 ^ A1 * (d' * 2 ^ A4) := by simp only [Nat.mul_assoc, Nat.mul_left_comm, Nat.mul_comm]
      _ = c' * 2 ^ A3 * (d * 2 ^ A2) := E
      _ = c' * d * (2 ^ A3 * 2 ^ A2) := by simp only [Nat.mul_assoc, Nat.mul_left_comm, Nat.mul_comm]
  rcases Nat.le_total (A3 + A2) (A1 + A4) with h | h
  · rw [show (q - r - (q' - r')).toNat = (A1 + A4) - (A3 + A2) by omega, show (q' - r' - (q - r)).toNat = 0 by omega]
    have : 2 ^ (A1 + A4) = 2 ^ ((A1 + A4) - (A3 + A2)) * 2 ^ (A3 + A2) := by rw [← Nat.pow_add]; congr 1; omega
    rw [this, ← Nat.mul_assoc] at E'
    rw [Nat.pow_zero, Nat.mul_one]
    exact Nat.eq_of_mul_eq_mul_right (Nat.two_pow_pos _) E'
  · rw [show (q - r - (q' - r')).toNat = 0 by omega, show (q' - r' - (q - r)).toNat = (A3 + A2) - (A1 + A4) by omega]
    have : 2 ^ (A3 + A2) = 2 ^ ((A3 + A2) - (A1 + A4)) * 2 ^ (A1 + A4) := by rw [← Nat.pow_add]; congr 1; omega
    rw [this, ← Nat.mul_assoc] at E'
    rw [Nat.pow_zero, Nat.mul_one]
    exact Nat.eq_of_mul_eq_mul_right (Nat.two_pow_pos _) E'
theorem own_cmp {a b : UInt64} {x y : Int} (ha : own_Val a x) (hb : own_Val b y) (o : CmpOp) : cmpValue (FP.dcmp a b) o = if x < y then -1 else if x = y then 0 else 1 := by
  rw [show FP.dcmp a b = _ from FP.Core.dcmp_zval ha.1 hb.1, ha.2, hb.2, FP.Core.compare_ite]
  by_cases h1 : x < y
  · rw [if_pos h1, if_pos h1]; rfl
  · rw [if_neg h1, if_neg h1]
    by_cases h2 : x = y
    · rw [if_pos h2, if_pos h2]; rfl
    · rw [if_neg h2, if_neg h2]; rfl
theorem own_if {a b : UInt64} {x y : Int} (ha : own_Val a x) (hb : own_Val b y) (o : CmpOp) :
    (ifCond.holds .eq (cmpValue (FP.dcmp a b) o) = decide (x = y)) ∧ (ifCond.holds .ne (cmpValue (FP.dcmp a b) o) = decide (x ≠ y)) ∧ (ifCond.holds .lt (cmpValue (FP.dcmp a b) o) = decide (x < y)) ∧
    (ifCond.holds .ge (cmpValue (FP.dcmp a b) o) = decide (y ≤ x)) ∧ (ifCond.holds .gt (cmpValue (FP.dcmp a b) o) = decide (y < x)) ∧ (ifCond.holds .le (cmpValue (FP.dcmp a b) o) = decide (x ≤ y)) := by
  rw [own_cmp ha hb o]
  by_cases h1 : x < y
  · rw [if_pos h1]
    rw [decide_eq_false (show ¬ x = y by omega), decide_eq_true (show x ≠ y by omega), decide_eq_true h1, decide_eq_false (show ¬ y ≤ x by omega), decide_eq_false (show ¬ y < x by omega), decide_eq_true (show x ≤ y by omega)]
    decide
  · rw [if_neg h1]
    by_cases h2 : x = y
    · rw [if_pos h2]
      rw [decide_eq_true h2, decide_eq_false (show ¬ x ≠ y by omega), decide_eq_false h1, decide_eq_true (show y ≤ x by omega), decide_eq_false (show ¬ y < x by omega), decide_eq_true (show x ≤ y by omega)]
      decide
    · rw [if_neg h2]
      rw [decide_eq_false h2, decide_eq_true (show x ≠ y by omega), decide_eq_false h1, decide_eq_true (show y ≤ x by omega), decide_eq_true (show y < x by omega), decide_eq_false (show ¬ x ≤ y by omega)]
      decide
theorem own_of_dint {i : Int} {a : UInt64} (h : FP.Core.DInt i a) : own_Fin a (i * own_U) := by
  refine ⟨?_, FP.Core.DInt_zval h⟩
  have h' : FP.Core.Whole i (FP.Core.val64 a) := h
  cases hv : FP.Core.val64 a with
  | nan => rw [hv] at h'; exact h'.elim
  | inf s => rw [hv] at h'; exact h'.elim
  | fin s c q => exact ⟨s, c, q, hv⟩
theorem own_i2d (n : Int32) : own_Fin (FP.i2d n) (n.toInt * own_U) := own_of_dint (FP.Core.i2d_int n)
theorem own_l2d {n : Int64} (h : n.toInt.natAbs ≤ 9007199254740992) : own_Fin (FP.l2d n) (n.toInt * own_U) := own_of_dint (FP.Core.l2d_int h)
theorem own_signed_self (n : Int) : FP.Core.signed (decide (n < 0)) n.natAbs = n := by
  by_cases h : n < 0
  · rw [decide_eq_true h]; simp only [FP.Core.signed, if_true]; omega
  · rw [decide_eq_false h]; simp only [FP.Core.signed, Bool.false_eq_true, if_false]; omega
theorem own_rep (n : Int) (k : Nat) {P : Int} (hP : ((2 ^ k : Nat) : Int) = P) (hn : n.natAbs < 9007199254740992) (hk : k ≤ 2045) : own_Rep (n * P) := by
  have hmax : FP.Core.b64.qmax = 971 := by decide
  obtain ⟨c', q', h1, h2⟩ := FP.Core.round_exact FP.Core.good_b64 (decide (n < 0)) (c := n.natAbs) (q := (k : Int) - 1074) (show n.natAbs < 2 ^ 53 by omega) (by rw [FP.Core.qmin_b64]; omega) (by rw [hmax]; omega)
  refine ⟨decide (n < 0), c', q', ?_, ?_⟩
  · rw [← h1]; exact FP.Core.round_fits FP.Core.good_b64 _
  · rw [own_zval_fin, h2]
    unfold FP.Core.inUnits
    rw [show ((k : Int) - 1074 - FP.Core.b64.qmin).toNat = k by rw [FP.Core.qmin_b64]; omega, FP.Core.signed_mul, hP, own_signed_self]
theorem own_rep_U (n : Int) (hn : n.natAbs < 9007199254740992) : own_Rep (n * own_U) := own_rep n 1074 rfl hn (by decide)
/-! own text: ints, longs and branches in plain integers -/
theorem own_h_eq (x : Int32) : (ifCond.holds .eq x = true) ↔ x.toInt = 0 := by
  simp only [ifCond.holds, beq_iff_eq, ← Int32.toInt_inj, Int32.toInt_zero]
theorem own_h_ne (x : Int32) : (ifCond.holds .ne x = true) ↔ x.toInt ≠ 0 := by
  simp only [ifCond.holds, bne_iff_ne, ne_eq, ← Int32.toInt_inj, Int32.toInt_zero]
theorem own_h_lt (x : Int32) : (ifCond.holds .lt x = true) ↔ x.toInt < 0 := by
  simp only [ifCond.holds, decide_eq_true_eq, Int32.lt_iff_toInt_lt, Int32.toInt_zero]
theorem own_h_ge (x : Int32) : (ifCond.holds .ge x = true) ↔ 0 ≤ x.toInt := by
  simp only [ifCond.holds, decide_eq_true_eq, ge_iff_le, Int32.le_iff_toInt_le, Int32.toInt_zero]
theorem own_h_gt (x : Int32) : (ifCond.holds .gt x = true) ↔ 0 < x.toInt := by
  simp only [ifCond.holds, decide_eq_true_eq, gt_iff_lt, Int32.lt_iff_toInt_lt, Int32.toInt_zero]
theorem own_h_le (x : Int32) : (ifCond.holds .le x = true) ↔ x.toInt ≤ 0 := by
  simp only [ifCond.holds, decide_eq_true_eq, Int32.le_iff_toInt_le, Int32.toInt_zero]
theorem own_c_eq (x y : Int32) : (if_icmp.holds .eq x y = true) ↔ x.toInt = y.toInt := by
  simp only [if_icmp.holds, beq_iff_eq, ← Int32.toInt_inj]
theorem own_c_ne (x y : Int32) : (if_icmp.holds .ne x y = true) ↔ x.toInt ≠ y.toInt := by
  simp only [if_icmp.holds, bne_iff_ne, ne_eq, ← Int32.toInt_inj]
theorem own_c_lt (x y : Int32) : (if_icmp.holds .lt x y = true) ↔ x.toInt < y.toInt := by
  simp only [if_icmp.holds, decide_eq_true_eq, Int32.lt_iff_toInt_lt]
theorem own_c_ge (x y : Int32) : (if_icmp.holds .ge x y = true) ↔ y.toInt ≤ x.toInt := by
  simp only [if_icmp.holds, decide_eq_true_eq, ge_iff_le, Int32.le_iff_toInt_le]
theorem own_c_gt (x y : Int32) : (if_icmp.holds .gt x y = true) ↔ y.toInt < x.toInt := by
  simp only [if_icmp.holds, decide_eq_true_eq, gt_iff_lt, Int32.lt_iff_toInt_lt]
theorem own_c_le (x y : Int32) : (if_icmp.holds .le x y = true) ↔ x.toInt ≤ y.toInt := by
  simp only [if_icmp.holds, decide_eq_true_eq, Int32.le_iff_toInt_le]
theorem own_L (x y : Int64) : (XT.cmpL x y).toInt = if y.toInt < x.toInt then 1 else if x.toInt = y.toInt then 0 else -1 := by
  unfold XT.cmpL
  simp only [Int64.lt_iff_toInt_lt, ← Int64.toInt_inj]
  split
  · rfl
  · split <;> rfl
theorem own_f_of {b : Bool} {p : Prop} (h : (b = true) ↔ p) (hp : ¬ p) : b = false := Bool.eq_false_iff.mpr fun q => hp (h.mp q)
theorem own_irem (x y : Int32) : (x - x / y * y).toInt = x.toInt.tmod y.toInt := by
  have a := (x % y).toInt_lt; have b := (x % y).le_toInt
  rw [Int32.toInt_mod] at a b
  rw [Int32.toInt_sub, Int32.toInt_mul, Int32.toInt_div, Int.bmod_mul_bmod, Int.sub_bmod_bmod, Int.mul_comm, ← Int.tmod_def]
  exact Jvm.Kit.bmod32 b a
theorem own_irem_nn {x y : Int32} (hx : 0 ≤ x.toInt) : (x - x / y * y).toInt = x.toInt % y.toInt := by rw [own_irem, Int.tmod_eq_emod_of_nonneg hx]
theorem own_ne0 {y : Int32} (h : y.toInt ≠ 0) : y ≠ 0 := fun q => h (by rw [q]; rfl)
theorem own_ne0L {y : Int64} (h : y.toInt ≠ 0) : y ≠ 0 := fun q => h (by rw [q]; rfl)
theorem own_mask31 (x : Int32) : 0 ≤ (x &&& 2147483647).toInt ∧ (x &&& 2147483647).toInt < 2147483648 := by
  rw [Jvm.Kit.i32_mask x 2147483647 (k := 31) (by decide) (by decide)]
  omega




def bd_res (i1 : Int32) (d8 : UInt64) (d9 : UInt64) (i9 : Int32) : UInt64 := if (if_icmp.holds .ne i1 i9) = true then (FP.dadd d8 (FP.ddiv (FP.dmul (FP.dsub d9 d8) (FP.i2d i1)) (FP.i2d i9))) else d9
def lw_n (p1 : Int32) (p2 : Int32) (p3 : Int32) (p4 : Int32) (p5 : Int64) (p6 : Int64) : Int32 := ((1 : Int32) + (p3 &&& (1048575 : Int32)))
def lw_k (p1 : Int32) (p2 : Int32) (p3 : Int32) (p4 : Int32) (p5 : Int64) (p6 : Int64) : Int32 := ((p4 &&& (2147483647 : Int32)) - (p4 &&& (2147483647 : Int32)) / ((lw_n p1 p2 p3 p4 p5 p6) + (1 : Int32)) * ((lw_n p1 p2 p3 p4 p5 p6) + (1 : Int32)))
def lw_d (p1 : Int32) (p2 : Int32) (p3 : Int32) (p4 : Int32) (p5 : Int64) (p6 : Int64) : Int64 := ((Int32.toInt64 p2) - (Int32.toInt64 p1))
def lw_num (p1 : Int32) (p2 : Int32) (p3 : Int32) (p4 : Int32) (p5 : Int64) (p6 : Int64) : Int64 := ((lw_d p1 p2 p3 p4 p5 p6) * (Int32.toInt64 (lw_k p1 p2 p3 p4 p5 p6)))
def lw_q (p1 : Int32) (p2 : Int32) (p3 : Int32) (p4 : Int32) (p5 : Int64) (p6 : Int64) : Int64 := ((lw_num p1 p2 p3 p4 p5 p6) / (Int32.toInt64 (lw_n p1 p2 p3 p4 p5 p6)))
def lw_r (p1 : Int32) (p2 : Int32) (p3 : Int32) (p4 : Int32) (p5 : Int64) (p6 : Int64) : Int64 := ((lw_num p1 p2 p3 p4 p5 p6) - (lw_num p1 p2 p3 p4 p5 p6) / (Int32.toInt64 (lw_n p1 p2 p3 p4 p5 p6)) * (Int32.toInt64 (lw_n p1 p2 p3 p4 p5 p6)))
def lw_qq (p1 : Int32) (p2 : Int32) (p3 : Int32) (p4 : Int32) (p5 : Int64) (p6 : Int64) : Int64 := (if (ifCond.holds .eq (XT.cmpL (lw_r p1 p2 p3 p4 p5 p6) (0 : Int64))) = true then (lw_q p1 p2 p3 p4 p5 p6) else (if (ifCond.holds .ge (XT.cmpL (lw_num p1 p2 p3 p4 p5 p6) (0 : Int64))) = true then (lw_q p1 p2 p3 p4 p5 p6) else ((lw_q p1 p2 p3 p4 p5 p6) - (1 : Int64))))
def lw_lo (p1 : Int32) (p2 : Int32) (p3 : Int32) (p4 : Int32) (p5 : Int64) (p6 : Int64) : Int64 := ((Int32.toInt64 p1) + (lw_qq p1 p2 p3 p4 p5 p6))
def lw_hi0 (p1 : Int32) (p2 : Int32) (p3 : Int32) (p4 : Int32) (p5 : Int64) (p6 : Int64) : Int64 := (if (ifCond.holds .ne (XT.cmpL (lw_r p1 p2 p3 p4 p5 p6) (0 : Int64))) = true then ((lw_lo p1 p2 p3 p4 p5 p6) + (1 : Int64)) else (lw_lo p1 p2 p3 p4 p5 p6))
def lw_hi (p1 : Int32) (p2 : Int32) (p3 : Int32) (p4 : Int32) (p5 : Int64) (p6 : Int64) : Int64 := (lw_hi0 p1 p2 p3 p4 p5 p6)
def lw_got (p1 : Int32) (p2 : Int32) (p3 : Int32) (p4 : Int32) (p5 : Int64) (p6 : Int64) : UInt64 := (bd_res (lw_k p1 p2 p3 p4 p5 p6) (FP.i2d p1) (FP.i2d p2) (lw_n p1 p2 p3 p4 p5 p6))

theorem own_floor {p n : Int} (hn : 0 < n) : (p.tmod n = 0 ∨ 0 ≤ p → p.tdiv n = p / n) ∧ (p.tmod n ≠ 0 → p < 0 → p.tdiv n - 1 = p / n) ∧ (p.tmod n = 0 ↔ p / n * n = p) := by
  have e := Int.tdiv_eq_ediv (a := p) (b := n)
  have d := Int.dvd_iff_tmod_eq_zero (a := n) (b := p)
  refine ⟨fun h => ?_, fun h1 h2 => ?_, ?_⟩
  · rw [e, if_pos (h.elim (fun q => Or.inr (d.mpr q)) Or.inl), Int.add_zero]
  · rw [e, if_neg (fun q => q.elim (fun k => by omega) (fun k => h1 (d.mp k))), Int.sign_eq_one_of_pos hn]; omega
  · exact ⟨fun q => Int.ediv_mul_cancel (d.mpr q), fun q => d.mp ⟨p / n, by rw [Int.mul_comm]; exact q.symm⟩⟩
theorem own_Lne {x : Int64} : (ifCond.holds .ne (XT.cmpL x (0 : Int64)) = true) ↔ x.toInt ≠ 0 := by
  rw [own_h_ne, own_L, show (0 : Int64).toInt = 0 from rfl]
  by_cases h1 : 0 < x.toInt
  · rw [if_pos h1]; exact ⟨fun _ => by omega, fun _ => by decide⟩
  · rw [if_neg h1]
    by_cases h2 : x.toInt = 0
    · rw [if_pos h2]; exact ⟨fun q => absurd rfl q, fun q => absurd h2 q⟩
    · rw [if_neg h2]; exact ⟨fun _ => h2, fun _ => by decide⟩
theorem own_Lge {x : Int64} : (ifCond.holds .ge (XT.cmpL x (0 : Int64)) = true) ↔ 0 ≤ x.toInt := by
  rw [own_h_ge, own_L, show (0 : Int64).toInt = 0 from rfl]
  by_cases h1 : 0 < x.toInt
  · rw [if_pos h1]; exact ⟨fun _ => by omega, fun _ => by decide⟩
  · rw [if_neg h1]
    by_cases h2 : x.toInt = 0
    · rw [if_pos h2]; exact ⟨fun q => by omega, fun q => by decide⟩
    · rw [if_neg h2]; exact ⟨fun q => absurd q (by decide), fun _ => by omega⟩

/-- the boundary of whole ends, by bounds -/
theorem own_core {o c : UInt64} {a b : Int} {k n : Int32} {f g : Int} (ho : own_Fin o (a * own_U)) (hc : own_Fin c (b * own_U)) (hn : 1 ≤ n.toInt) (hd : (b - a).natAbs < 9007199254740992) (hm : ((b - a) * k.toInt).natAbs < 9007199254740992)
    (hf : f * n.toInt ≤ (b - a) * k.toInt) (hg : (b - a) * k.toInt ≤ g * n.toInt) (f1 : f.natAbs < 9007199254740992) (g1 : g.natAbs < 9007199254740992) (f2 : (a + f).natAbs < 9007199254740992) (g2 : (a + g).natAbs < 9007199254740992) :
    own_Fin (FP.dsub c o) ((b - a) * own_U) ∧ own_Fin (FP.dmul (FP.dsub c o) (FP.i2d k)) ((b - a) * k.toInt * own_U) ∧ (∃ z, own_Fin (FP.ddiv (FP.dmul (FP.dsub c o) (FP.i2d k)) (FP.i2d n)) z) ∧
      ∃ z, own_Fin (FP.dadd o (FP.ddiv (FP.dmul (FP.dsub c o) (FP.i2d k)) (FP.i2d n))) z ∧ (a + f) * own_U ≤ z ∧ z ≤ (a + g) * own_U := by
  have hU := own_U_pos
  have h1 : own_Fin (FP.dsub c o) ((b - a) * own_U) := by
    have e : b * own_U - a * own_U = (b - a) * own_U := (Int.sub_mul _ _ _).symm
    exact (own_sub_e hc ho (by rw [e]; exact own_rep_U _ hd)).cast e
  have h2 : own_Fin (FP.dmul (FP.dsub c o) (FP.i2d k)) ((b - a) * k.toInt * own_U) := by
    refine own_mul_e h1 (own_i2d k) (own_rep_U _ hm) ?_
    simp only [Int.mul_assoc, Int.mul_left_comm, Int.mul_comm]
  obtain ⟨z, h3, l, u⟩ := own_div h2 (own_i2d n) (Int.mul_pos (by omega) hU) (own_rep_U f f1) (own_rep_U g g1)
    (by
      have e : f * own_U * (n.toInt * own_U) = f * n.toInt * (own_U * own_U) := by simp only [Int.mul_assoc, Int.mul_left_comm, Int.mul_comm]
      rw [e, Int.mul_assoc ((b - a) * k.toInt)]
      exact Int.mul_le_mul_of_nonneg_right hf (Int.le_of_lt (Int.mul_pos hU hU)))
    (by
      have e : g * own_U * (n.toInt * own_U) = g * n.toInt * (own_U * own_U) := by simp only [Int.mul_assoc, Int.mul_left_comm, Int.mul_comm]
      rw [e, Int.mul_assoc ((b - a) * k.toInt)]
      exact Int.mul_le_mul_of_nonneg_right hg (Int.le_of_lt (Int.mul_pos hU hU)))
  refine ⟨h1, h2, ⟨z, h3⟩, ?_⟩
  refine own_add ho h3 (own_rep_U _ f2) (own_rep_U _ g2) ?_ ?_
  · rw [Int.add_mul]; omega
  · rw [Int.add_mul]; omega
theorem own_zero : own_Fin (0 : UInt64) (0) := ⟨(FP.Core.fin_bits _).mpr (by decide), by decide +kernel⟩
theorem own_big : own_Fin (4890909195324358656 : UInt64) (1866831283351045821290051077856620080845209159650903291326763841885977105593626657769374509831481072763545059413864411820814789073334843464670825710760822317079604277694110780429375707916746655261598291386164182192630547426600149493073978642465210658108515685115807002918237384140492309512727224992978736494828681432154374489278507031537385472) := ⟨(FP.Core.fin_bits _).mpr (by decide), by decide +kernel⟩
theorem own_mbig : own_Fin (14114281232179134464 : UInt64) (-1866831283351045821290051077856620080845209159650903291326763841885977105593626657769374509831481072763545059413864411820814789073334843464670825710760822317079604277694110780429375707916746655261598291386164182192630547426600149493073978642465210658108515685115807002918237384140492309512727224992978736494828681432154374489278507031537385472) := ⟨(FP.Core.fin_bits _).mpr (by decide), by decide +kernel⟩

theorem own_dd {x : UInt64} (h : Jvm.Free.Fl.NoNaN64 x) (o : CmpOp) : ifCond.holds .ne (cmpValue (FP.dcmp x x) o) = false := by rw [dcmpV_self h o]; decide
theorem own_n (p1 p2 p3 p4 : Int32) (p5 p6 : Int64) : 1 ≤ (lw_n p1 p2 p3 p4 p5 p6).toInt ∧ (lw_n p1 p2 p3 p4 p5 p6).toInt ≤ 1048576 := by
  have h := Jvm.Kit.i32_mask p3 1048575 (k := 20) (by decide) (by decide)
  have e : (lw_n p1 p2 p3 p4 p5 p6).toInt = 1 + (p3 &&& 1048575).toInt := Jvm.Kit.i32_add (p := 1) (q := p3 &&& 1048575) (by rw [h]; show _ ≤ (1 : Int) + _; omega) (by rw [h]; show (1 : Int) + _ < _; omega)
  rw [e, h]; omega
theorem own_np (p1 p2 p3 p4 : Int32) (p5 p6 : Int64) : (lw_n p1 p2 p3 p4 p5 p6 + (1 : Int32)).toInt = (lw_n p1 p2 p3 p4 p5 p6).toInt + 1 := by
  have h := own_n p1 p2 p3 p4 p5 p6
  exact Jvm.Kit.i32_add (p := lw_n p1 p2 p3 p4 p5 p6) (q := 1) (by show _ ≤ _ + (1 : Int); omega) (by show _ + (1 : Int) < _; omega)
theorem own_n1 (p1 p2 p3 p4 : Int32) (p5 p6 : Int64) : lw_n p1 p2 p3 p4 p5 p6 + (1 : Int32) ≠ 0 := own_ne0 (by rw [own_np]; have := own_n p1 p2 p3 p4 p5 p6; omega)
theorem own_k (p1 p2 p3 p4 : Int32) (p5 p6 : Int64) : 0 ≤ (lw_k p1 p2 p3 p4 p5 p6).toInt ∧ (lw_k p1 p2 p3 p4 p5 p6).toInt ≤ (lw_n p1 p2 p3 p4 p5 p6).toInt := by
  have h := own_n p1 p2 p3 p4 p5 p6
  have hm := own_mask31 p4
  have e : (lw_k p1 p2 p3 p4 p5 p6).toInt = (p4 &&& 2147483647).toInt % ((lw_n p1 p2 p3 p4 p5 p6).toInt + 1) := by
    rw [← own_np]; exact own_irem_nn hm.1
  rw [e]
  have q1 := Int.emod_nonneg (p4 &&& 2147483647).toInt (show (lw_n p1 p2 p3 p4 p5 p6).toInt + 1 ≠ 0 by omega)
  have q2 := Int.emod_lt_of_pos (p4 &&& 2147483647).toInt (show 0 < (lw_n p1 p2 p3 p4 p5 p6).toInt + 1 by omega)
  omega
theorem own_ge (p1 p2 p3 p4 : Int32) (p5 p6 : Int64) : if_icmp.holds .ge (lw_n p1 p2 p3 p4 p5 p6) (1 : Int32) = true := (own_c_ge _ _).mpr (own_n p1 p2 p3 p4 p5 p6).1
theorem own_c0 (p1 p2 p3 p4 : Int32) (p5 p6 : Int64) : if_icmp.holds .ne (0 : Int32) (lw_n p1 p2 p3 p4 p5 p6) = true := (own_c_ne _ _).mpr (by have := own_n p1 p2 p3 p4 p5 p6; show (0 : Int) ≠ _; omega)
theorem own_nL (p1 p2 p3 p4 : Int32) (p5 p6 : Int64) : Int32.toInt64 (lw_n p1 p2 p3 p4 p5 p6) ≠ 0 := own_ne0L (by rw [Jvm.Kit.i64_of_i32]; have := own_n p1 p2 p3 p4 p5 p6; omega)
theorem own_prod (p1 p2 p3 p4 : Int32) (p5 p6 : Int64) : -4503599627370496 ≤ ((p2.toInt - p1.toInt) * (lw_k p1 p2 p3 p4 p5 p6).toInt) ∧ ((p2.toInt - p1.toInt) * (lw_k p1 p2 p3 p4 p5 p6).toInt) ≤ 4503599627370496 := by
  have a1 := p1.toInt_lt; have b1 := p1.le_toInt
  have a2 := p2.toInt_lt; have b2 := p2.le_toInt
  have h := own_n p1 p2 p3 p4 p5 p6
  have hk := own_k p1 p2 p3 p4 p5 p6
  have h1 : (((p2.toInt - p1.toInt) * (lw_k p1 p2 p3 p4 p5 p6).toInt)).natAbs ≤ 4294967296 * 1048576 := by
    rw [Int.natAbs_mul]; exact Nat.mul_le_mul (by omega) (by omega)
  omega
theorem own_d (p1 p2 p3 p4 : Int32) (p5 p6 : Int64) : (lw_d p1 p2 p3 p4 p5 p6).toInt = p2.toInt - p1.toInt := by
  have a1 := p1.toInt_lt; have b1 := p1.le_toInt
  have a2 := p2.toInt_lt; have b2 := p2.le_toInt
  show (Int32.toInt64 p2 - Int32.toInt64 p1).toInt = _
  rw [Jvm.Kit.i64_sub (by rw [Jvm.Kit.i64_of_i32, Jvm.Kit.i64_of_i32]; omega) (by rw [Jvm.Kit.i64_of_i32, Jvm.Kit.i64_of_i32]; omega), Jvm.Kit.i64_of_i32, Jvm.Kit.i64_of_i32]
theorem own_num (p1 p2 p3 p4 : Int32) (p5 p6 : Int64) : (lw_num p1 p2 p3 p4 p5 p6).toInt = ((p2.toInt - p1.toInt) * (lw_k p1 p2 p3 p4 p5 p6).toInt) := by
  have h := own_prod p1 p2 p3 p4 p5 p6
  show (lw_d p1 p2 p3 p4 p5 p6 * Int32.toInt64 (lw_k p1 p2 p3 p4 p5 p6)).toInt = _
  rw [Jvm.Kit.i64_mul (by rw [Jvm.Kit.i64_of_i32, own_d]; omega) (by rw [Jvm.Kit.i64_of_i32, own_d]; omega), Jvm.Kit.i64_of_i32, own_d]
theorem own_q (p1 p2 p3 p4 : Int32) (p5 p6 : Int64) : (lw_q p1 p2 p3 p4 p5 p6).toInt = (lw_num p1 p2 p3 p4 p5 p6).toInt.tdiv (lw_n p1 p2 p3 p4 p5 p6).toInt := by
  have h := own_n p1 p2 p3 p4 p5 p6
  show (lw_num p1 p2 p3 p4 p5 p6 / Int32.toInt64 (lw_n p1 p2 p3 p4 p5 p6)).toInt = _
  rw [Jvm.Kit.i64_div (by rw [Jvm.Kit.i64_of_i32]; omega), Jvm.Kit.i64_of_i32]
theorem own_r (p1 p2 p3 p4 : Int32) (p5 p6 : Int64) : (lw_r p1 p2 p3 p4 p5 p6).toInt = (lw_num p1 p2 p3 p4 p5 p6).toInt.tmod (lw_n p1 p2 p3 p4 p5 p6).toInt := by
  show (lw_num p1 p2 p3 p4 p5 p6 - lw_num p1 p2 p3 p4 p5 p6 / Int32.toInt64 (lw_n p1 p2 p3 p4 p5 p6) * Int32.toInt64 (lw_n p1 p2 p3 p4 p5 p6)).toInt = _
  rw [Jvm.Kit.i64_rem, Jvm.Kit.i64_of_i32]
def own_f (p1 p2 p3 p4 : Int32) (p5 p6 : Int64) : Int := ((p2.toInt - p1.toInt) * (lw_k p1 p2 p3 p4 p5 p6).toInt) / (lw_n p1 p2 p3 p4 p5 p6).toInt
theorem own_fl (p1 p2 p3 p4 : Int32) (p5 p6 : Int64) : own_f p1 p2 p3 p4 p5 p6 * (lw_n p1 p2 p3 p4 p5 p6).toInt ≤ ((p2.toInt - p1.toInt) * (lw_k p1 p2 p3 p4 p5 p6).toInt) ∧ ((p2.toInt - p1.toInt) * (lw_k p1 p2 p3 p4 p5 p6).toInt) < (own_f p1 p2 p3 p4 p5 p6 + 1) * (lw_n p1 p2 p3 p4 p5 p6).toInt ∧ -4503599627370496 ≤ own_f p1 p2 p3 p4 p5 p6 ∧ own_f p1 p2 p3 p4 p5 p6 ≤ 4503599627370496 := by
  have h := own_n p1 p2 p3 p4 p5 p6
  have hp := own_prod p1 p2 p3 p4 p5 p6
  unfold own_f
  generalize ((p2.toInt - p1.toInt) * (lw_k p1 p2 p3 p4 p5 p6).toInt) = p at *
  generalize (lw_n p1 p2 p3 p4 p5 p6).toInt = n at *
  have q1 := Int.ediv_mul_le p (show n ≠ 0 by omega)
  have q2 := Int.lt_ediv_add_one_mul_self p (show 0 < n by omega)
  have q0 : (4503599627370496 : Int) * 1 ≤ 4503599627370496 * n := Int.mul_le_mul_of_nonneg_left (by omega) (by decide)
  have q3 : (-4503599627370496 : Int) ≤ p / n := (Int.le_ediv_iff_mul_le (by omega)).mpr (by omega)
  have q4 : p / n ≤ (4503599627370496 : Int) := Int.ediv_le_of_le_mul (by omega) (by omega)
  exact ⟨q1, q2, q3, q4⟩
theorem own_s (p1 p2 p3 p4 : Int32) (p5 p6 : Int64) : Jvm.Free.Fl.NoNaN64 (FP.dsub (FP.i2d p2) (FP.i2d p1)) ∧ Jvm.Free.Fl.NoNaN64 (FP.dmul (FP.dsub (FP.i2d p2) (FP.i2d p1)) (FP.i2d (lw_k p1 p2 p3 p4 p5 p6))) ∧ Jvm.Free.Fl.NoNaN64 (FP.ddiv (FP.dmul (FP.dsub (FP.i2d p2) (FP.i2d p1)) (FP.i2d (lw_k p1 p2 p3 p4 p5 p6))) (FP.i2d (lw_n p1 p2 p3 p4 p5 p6))) ∧ Jvm.Free.Fl.NoNaN64 (FP.dadd (FP.i2d p1) (FP.ddiv (FP.dmul (FP.dsub (FP.i2d p2) (FP.i2d p1)) (FP.i2d (lw_k p1 p2 p3 p4 p5 p6))) (FP.i2d (lw_n p1 p2 p3 p4 p5 p6)))) := by
  have a1 := p1.toInt_lt; have b1 := p1.le_toInt
  have a2 := p2.toInt_lt; have b2 := p2.le_toInt
  have hp := own_prod p1 p2 p3 p4 p5 p6
  obtain ⟨q1, q2, q3, q4⟩ := own_fl p1 p2 p3 p4 p5 p6
  obtain ⟨h1, h2, ⟨z3, h3⟩, z4, h4, -⟩ := own_core (f := own_f p1 p2 p3 p4 p5 p6) (g := own_f p1 p2 p3 p4 p5 p6 + 1) (k := lw_k p1 p2 p3 p4 p5 p6) (n := lw_n p1 p2 p3 p4 p5 p6) (own_i2d p1) (own_i2d p2) (own_n p1 p2 p3 p4 p5 p6).1 (by omega) (by omega) q1 (by omega) (by omega) (by omega) (by omega) (by omega)
  exact ⟨h1.nn, h2.nn, h3.nn, h4.nn⟩
/-- where the boundary lies -/
theorem own_at (p1 p2 p3 p4 : Int32) (p5 p6 : Int64) : ∃ z, own_Fin (lw_got p1 p2 p3 p4 p5 p6) z ∧ (p1.toInt + own_f p1 p2 p3 p4 p5 p6) * own_U ≤ z ∧ z ≤ (p1.toInt + own_f p1 p2 p3 p4 p5 p6 + (if own_f p1 p2 p3 p4 p5 p6 * (lw_n p1 p2 p3 p4 p5 p6).toInt = ((p2.toInt - p1.toInt) * (lw_k p1 p2 p3 p4 p5 p6).toInt) then 0 else 1)) * own_U := by
  have a1 := p1.toInt_lt; have b1 := p1.le_toInt
  have a2 := p2.toInt_lt; have b2 := p2.le_toInt
  have hn := own_n p1 p2 p3 p4 p5 p6
  have hp := own_prod p1 p2 p3 p4 p5 p6
  obtain ⟨q1, q2, q3, q4⟩ := own_fl p1 p2 p3 p4 p5 p6
  show ∃ z, own_Fin (bd_res (lw_k p1 p2 p3 p4 p5 p6) (FP.i2d p1) (FP.i2d p2) (lw_n p1 p2 p3 p4 p5 p6)) z ∧ _
  unfold bd_res
  by_cases cc : if_icmp.holds .ne (lw_k p1 p2 p3 p4 p5 p6) (lw_n p1 p2 p3 p4 p5 p6) = true
  · rw [if_pos cc]
    by_cases c : own_f p1 p2 p3 p4 p5 p6 * (lw_n p1 p2 p3 p4 p5 p6).toInt = ((p2.toInt - p1.toInt) * (lw_k p1 p2 p3 p4 p5 p6).toInt)
    · obtain ⟨h1, h2, ⟨z3, h3⟩, z4, h4, l, u⟩ := own_core (f := own_f p1 p2 p3 p4 p5 p6) (g := own_f p1 p2 p3 p4 p5 p6) (k := lw_k p1 p2 p3 p4 p5 p6) (n := lw_n p1 p2 p3 p4 p5 p6) (own_i2d p1) (own_i2d p2) hn.1 (by omega) (by omega) q1 (by omega) (by omega) (by omega) (by omega) (by omega)
      rw [if_pos c, Int.add_zero]
      exact ⟨z4, h4, l, u⟩
    · obtain ⟨h1, h2, ⟨z3, h3⟩, z4, h4, l, u⟩ := own_core (f := own_f p1 p2 p3 p4 p5 p6) (g := own_f p1 p2 p3 p4 p5 p6 + 1) (k := lw_k p1 p2 p3 p4 p5 p6) (n := lw_n p1 p2 p3 p4 p5 p6) (own_i2d p1) (own_i2d p2) hn.1 (by omega) (by omega) q1 (by omega) (by omega) (by omega) (by omega) (by omega)
      rw [if_neg c]
      rw [← Int.add_assoc] at u
      exact ⟨z4, h4, l, u⟩
  · rw [if_neg cc]
    have ek : (lw_k p1 p2 p3 p4 p5 p6).toInt = (lw_n p1 p2 p3 p4 p5 p6).toInt := Classical.byContradiction fun q => cc ((own_c_ne _ _).mpr q)
    have ef : own_f p1 p2 p3 p4 p5 p6 = p2.toInt - p1.toInt := by
      unfold own_f; rw [ek]; exact Int.mul_ediv_cancel _ (by omega)
    have c : own_f p1 p2 p3 p4 p5 p6 * (lw_n p1 p2 p3 p4 p5 p6).toInt = ((p2.toInt - p1.toInt) * (lw_k p1 p2 p3 p4 p5 p6).toInt) := by rw [ef, ek]
    rw [if_pos c, ef, show p1.toInt + (p2.toInt - p1.toInt) = p2.toInt by omega, Int.add_zero]
    exact ⟨_, own_i2d p2, Int.le_refl _, Int.le_refl _⟩
theorem own_r0 (p1 p2 p3 p4 : Int32) (p5 p6 : Int64) : (lw_r p1 p2 p3 p4 p5 p6).toInt = 0 ↔ own_f p1 p2 p3 p4 p5 p6 * (lw_n p1 p2 p3 p4 p5 p6).toInt = ((p2.toInt - p1.toInt) * (lw_k p1 p2 p3 p4 p5 p6).toInt) := by
  have h := own_n p1 p2 p3 p4 p5 p6
  rw [own_r, own_num]
  exact (own_floor (by omega)).2.2
theorem own_Leq {x : Int64} : (ifCond.holds .eq (XT.cmpL x (0 : Int64)) = true) ↔ x.toInt = 0 := by
  rw [own_h_eq, own_L, show (0 : Int64).toInt = 0 from rfl]
  by_cases h1 : 0 < x.toInt
  · rw [if_pos h1]; exact ⟨fun q => absurd q (by decide), fun _ => by omega⟩
  · rw [if_neg h1]
    by_cases h2 : x.toInt = 0
    · rw [if_pos h2]; exact ⟨fun _ => h2, fun _ => rfl⟩
    · rw [if_neg h2]; exact ⟨fun q => absurd q (by decide), fun q => absurd q h2⟩
theorem own_fq (p1 p2 p3 p4 : Int32) (p5 p6 : Int64) : (lw_qq p1 p2 p3 p4 p5 p6).toInt = own_f p1 p2 p3 p4 p5 p6 := by
  have h := own_n p1 p2 p3 p4 p5 p6
  obtain ⟨q1, q2, q3, q4⟩ := own_fl p1 p2 p3 p4 p5 p6
  have fl := own_floor (p := (lw_num p1 p2 p3 p4 p5 p6).toInt) (n := (lw_n p1 p2 p3 p4 p5 p6).toInt) (by omega)
  have ef : own_f p1 p2 p3 p4 p5 p6 = (lw_num p1 p2 p3 p4 p5 p6).toInt / (lw_n p1 p2 p3 p4 p5 p6).toInt := by rw [own_num]; rfl
  unfold lw_qq
  rw [ef]
  by_cases c : ifCond.holds .eq (XT.cmpL (lw_r p1 p2 p3 p4 p5 p6) (0 : Int64)) = true
  · rw [if_pos c]
    rw [own_Leq, own_r] at c
    rw [own_q]; exact fl.1 (Or.inl c)
  · rw [if_neg c]
    rw [own_Leq, own_r] at c
    by_cases s : ifCond.holds .ge (XT.cmpL (lw_num p1 p2 p3 p4 p5 p6) (0 : Int64)) = true
    · rw [if_pos s]
      rw [own_Lge] at s
      rw [own_q]; exact fl.1 (Or.inr s)
    · rw [if_neg s]
      rw [own_Lge] at s
      have e := fl.2.1 c (by omega)
      rw [← own_q] at e
      rw [← ef] at e ⊢
      rw [Jvm.Kit.i64_sub (by show _ ≤ _ - (1 : Int); omega) (by show _ - (1 : Int) < _; omega)]
      exact e
theorem own_lo (p1 p2 p3 p4 : Int32) (p5 p6 : Int64) : (lw_lo p1 p2 p3 p4 p5 p6).toInt = p1.toInt + own_f p1 p2 p3 p4 p5 p6 ∧ own_Fin (FP.l2d (lw_lo p1 p2 p3 p4 p5 p6)) ((p1.toInt + own_f p1 p2 p3 p4 p5 p6) * own_U) := by
  have a1 := p1.toInt_lt; have b1 := p1.le_toInt
  obtain ⟨q1, q2, q3, q4⟩ := own_fl p1 p2 p3 p4 p5 p6
  have e : (lw_lo p1 p2 p3 p4 p5 p6).toInt = p1.toInt + own_f p1 p2 p3 p4 p5 p6 := by
    show (Int32.toInt64 p1 + lw_qq p1 p2 p3 p4 p5 p6).toInt = _
    rw [Jvm.Kit.i64_add (by rw [Jvm.Kit.i64_of_i32, own_fq]; omega) (by rw [Jvm.Kit.i64_of_i32, own_fq]; omega), Jvm.Kit.i64_of_i32, own_fq]
  have h := own_l2d (n := lw_lo p1 p2 p3 p4 p5 p6) (by rw [e]; omega)
  rw [e] at h
  exact ⟨e, h⟩
theorem own_hi (p1 p2 p3 p4 : Int32) (p5 p6 : Int64) : own_Fin (FP.l2d (lw_hi p1 p2 p3 p4 p5 p6)) ((p1.toInt + own_f p1 p2 p3 p4 p5 p6 + (if own_f p1 p2 p3 p4 p5 p6 * (lw_n p1 p2 p3 p4 p5 p6).toInt = ((p2.toInt - p1.toInt) * (lw_k p1 p2 p3 p4 p5 p6).toInt) then 0 else 1)) * own_U) := by
  have a1 := p1.toInt_lt; have b1 := p1.le_toInt
  obtain ⟨q1, q2, q3, q4⟩ := own_fl p1 p2 p3 p4 p5 p6
  obtain ⟨e, hl⟩ := own_lo p1 p2 p3 p4 p5 p6
  show own_Fin (FP.l2d (lw_hi0 p1 p2 p3 p4 p5 p6)) _
  unfold lw_hi0
  by_cases c : ifCond.holds .ne (XT.cmpL (lw_r p1 p2 p3 p4 p5 p6) (0 : Int64)) = true
  · rw [if_pos c]
    rw [own_Lne, ne_eq, own_r0] at c
    rw [if_neg c]
    have e2 : (lw_lo p1 p2 p3 p4 p5 p6 + (1 : Int64)).toInt = p1.toInt + own_f p1 p2 p3 p4 p5 p6 + 1 := by
      rw [Jvm.Kit.i64_add (by rw [e]; show _ ≤ _ + (1 : Int); omega) (by rw [e]; show _ + (1 : Int) < _; omega), e]; rfl
    have h := own_l2d (n := lw_lo p1 p2 p3 p4 p5 p6 + (1 : Int64)) (by rw [e2]; omega)
    rw [e2] at h; exact h
  · rw [if_neg c]
    rw [own_Lne, ne_eq, own_r0] at c
    rw [if_pos (Classical.byContradiction c), Int.add_zero]
    exact hl
theorem own_e1 (p1 p2 p3 p4 : Int32) (p5 p6 : Int64) : ifCond.holds .gt (cmpValue (FP.dcmp (FP.l2d (lw_lo p1 p2 p3 p4 p5 p6)) (lw_got p1 p2 p3 p4 p5 p6)) .g) = false := by
  obtain ⟨z, hz, l, u⟩ := own_at p1 p2 p3 p4 p5 p6
  rw [(own_if (own_lo p1 p2 p3 p4 p5 p6).2.v hz.v .g).2.2.2.2.1]
  exact decide_eq_false (by omega)
theorem own_e2 (p1 p2 p3 p4 : Int32) (p5 p6 : Int64) : ifCond.holds .gt (cmpValue (FP.dcmp (lw_got p1 p2 p3 p4 p5 p6) (FP.l2d (lw_hi p1 p2 p3 p4 p5 p6))) .g) = false := by
  obtain ⟨z, hz, l, u⟩ := own_at p1 p2 p3 p4 p5 p6
  rw [(own_if hz.v (own_hi p1 p2 p3 p4 p5 p6).v .g).2.2.2.2.1]
  exact decide_eq_false (by omega)
/-- a long as a double, between -2^63 and 2^63 -/
theorem own_wide (v : Int64) : ∃ z, own_Fin (FP.l2d v) z ∧ -1866831283351045821290051077856620080845209159650903291326763841885977105593626657769374509831481072763545059413864411820814789073334843464670825710760822317079604277694110780429375707916746655261598291386164182192630547426600149493073978642465210658108515685115807002918237384140492309512727224992978736494828681432154374489278507031537385472 ≤ z ∧ z ≤ 1866831283351045821290051077856620080845209159650903291326763841885977105593626657769374509831481072763545059413864411820814789073334843464670825710760822317079604277694110780429375707916746655261598291386164182192630547426600149493073978642465210658108515685115807002918237384140492309512727224992978736494828681432154374489278507031537385472 := by
  have a := v.toInt_lt; have b := v.le_toInt
  have hU : ((FP.Core.one64 : Nat) : Int) = 202402253307310618352495346718917307049556649764142118356901358027430339567995346891960383701437124495187077864316811911389808737385793476867013399940738509921517424276566361364466907742093216341239767678472745068562007483424692698618103355649159556340810056512358769552333414615230502532186327508646006263307707741093494784 := own_U_lit
  have q1 := FP.Core.l2d_zval_ge (n := v) (V := 14114281232179134464) own_mbig.ne (by rw [own_mbig.2, hU]; omega)
  have q2 := FP.Core.l2d_zval_le (n := v) (V := 4890909195324358656) own_big.ne (by rw [own_big.2, hU]; omega)
  rw [own_mbig.2] at q1
  rw [own_big.2] at q2
  exact ⟨_, ⟨FP.Core.l2d_fin v, rfl⟩, by exact q1, by exact q2⟩
theorem own_zz (p1 p2 p3 p4 : Int32) (p5 p6 : Int64) : own_Fin (FP.i2d (0 : Int32)) 0 := (own_i2d 0).cast (by show (0 : Int) * _ = 0; exact Int.zero_mul _)
def own_p5 (p1 p2 p3 p4 : Int32) (p5 p6 : Int64) : Int := FP.Core.zval FP.Core.b64 (FP.Core.val64 (FP.l2d p5))
theorem own_w0 (p1 p2 p3 p4 : Int32) (p5 p6 : Int64) : (∃ z, own_Fin (FP.dsub (FP.l2d p6) (FP.l2d p5)) z) ∧ own_Fin (FP.dmul (FP.dsub (FP.l2d p6) (FP.l2d p5)) (FP.i2d (0 : Int32))) 0 ∧ own_Fin (FP.ddiv (FP.dmul (FP.dsub (FP.l2d p6) (FP.l2d p5)) (FP.i2d (0 : Int32))) (FP.i2d (lw_n p1 p2 p3 p4 p5 p6))) 0 ∧ own_Fin (FP.dadd (FP.l2d p5) (FP.ddiv (FP.dmul (FP.dsub (FP.l2d p6) (FP.l2d p5)) (FP.i2d (0 : Int32))) (FP.i2d (lw_n p1 p2 p3 p4 p5 p6)))) (own_p5 p1 p2 p3 p4 p5 p6) := by
  obtain ⟨z5, h5, l5, u5⟩ := own_wide p5
  obtain ⟨z6, h6, l6, u6⟩ := own_wide p6
  have hn := own_n p1 p2 p3 p4 p5 p6
  have rz : own_Rep 0 := own_zero.rep
  obtain ⟨z, hz, -⟩ := own_sub h6 h5 (own_rep (-1) 1139 (P := 7467325133404183285160204311426480323380836638603613165307055367543908422374506631077498039325924291054180237655457647283259156293339373858683302843043289268318417110776443121717502831666986621046393165544656728770522189706400597972295914569860842632434062740463228011672949536561969238050908899971914945979314725728617497957114028126149541888) (by decide +kernel) (by decide) (by decide)) (own_rep 1 1139 (P := 7467325133404183285160204311426480323380836638603613165307055367543908422374506631077498039325924291054180237655457647283259156293339373858683302843043289268318417110776443121717502831666986621046393165544656728770522189706400597972295914569860842632434062740463228011672949536561969238050908899971914945979314725728617497957114028126149541888) (by decide +kernel) (by decide) (by decide)) (by omega) (by omega)
  have h1 := own_mul_e hz (own_zz p1 p2 p3 p4 p5 p6) rz (by rw [Int.mul_zero, Int.zero_mul])
  have h2 := own_div_e h1 (own_i2d (lw_n p1 p2 p3 p4 p5 p6)) (Int.mul_pos (by omega) own_U_pos) rz (by rw [Int.zero_mul, Int.zero_mul])
  have e5 : own_p5 p1 p2 p3 p4 p5 p6 = z5 := h5.2
  refine ⟨⟨z, hz⟩, h1, h2, ?_⟩
  rw [e5]
  exact (own_add_e h5 h2 (by rw [Int.add_zero]; exact h5.rep)).cast (Int.add_zero _)
theorem own_w (p1 p2 p3 p4 : Int32) (p5 p6 : Int64) : own_Fin (FP.dsub (FP.l2d p6) (FP.l2d p5)) (FP.Core.zval FP.Core.b64 (FP.Core.val64 (FP.dsub (FP.l2d p6) (FP.l2d p5)))) ∧ own_Fin (FP.dmul (FP.dsub (FP.l2d p6) (FP.l2d p5)) (FP.i2d (0 : Int32))) 0 ∧ own_Fin (FP.ddiv (FP.dmul (FP.dsub (FP.l2d p6) (FP.l2d p5)) (FP.i2d (0 : Int32))) (FP.i2d (lw_n p1 p2 p3 p4 p5 p6))) 0 ∧ own_Fin (FP.dadd (FP.l2d p5) (FP.ddiv (FP.dmul (FP.dsub (FP.l2d p6) (FP.l2d p5)) (FP.i2d (0 : Int32))) (FP.i2d (lw_n p1 p2 p3 p4 p5 p6)))) (own_p5 p1 p2 p3 p4 p5 p6) := by
  obtain ⟨⟨z, hz⟩, h⟩ := own_w0 p1 p2 p3 p4 p5 p6
  exact ⟨⟨hz.1, rfl⟩, h⟩
theorem own_e3 (p1 p2 p3 p4 : Int32) (p5 p6 : Int64) : ifCond.holds .ne (cmpValue (FP.dcmp (FP.dadd (FP.l2d p5) (FP.ddiv (FP.dmul (FP.dsub (FP.l2d p6) (FP.l2d p5)) (FP.i2d (0 : Int32))) (FP.i2d (lw_n p1 p2 p3 p4 p5 p6)))) (FP.l2d p5)) .l) = false := by
  have h5 : own_Fin (FP.l2d p5) (own_p5 p1 p2 p3 p4 p5 p6) := ⟨FP.Core.l2d_fin p5, rfl⟩
  rw [(own_if (own_w p1 p2 p3 p4 p5 p6).2.2.2.v h5.v .l).2.1]
  exact decide_eq_false (fun h => h rfl)
theorem d1_0 : decode prog_17_method_1_code 0 = .ok (.aload_n 0, 1) := by decide +kernel
theorem d1_1 : decode prog_17_method_1_code 1 = .ok (.invokespecial 1, 3) := by decide +kernel
theorem d1_4 : decode prog_17_method_1_code 4 = .ok (.iload 5, 2) := by decide +kernel
theorem d1_6 : decode prog_17_method_1_code 6 = .ok (.iconst 1, 1) := by decide +kernel
theorem d1_7 : decode prog_17_method_1_code 7 = .ok (.if_icmp .ge 18, 3) := by decide +kernel
theorem d1_10 : decode prog_17_method_1_code 10 = .ok (.new 7, 3) := by decide +kernel
theorem d1_13 : decode prog_17_method_1_code 13 = .ok (.dup, 1) := by decide +kernel
theorem d1_14 : decode prog_17_method_1_code 14 = .ok (.iload 5, 2) := by decide +kernel
theorem d1_16 : decode prog_17_method_1_code 16 = .ok (.invokedynamic 9, 5) := by decide +kernel
theorem d1_21 : decode prog_17_method_1_code 21 = .ok (.invokespecial 13, 3) := by decide +kernel
theorem d1_24 : decode prog_17_method_1_code 24 = .ok (.athrow, 1) := by decide +kernel
theorem d1_25 : decode prog_17_method_1_code 25 = .ok (.aload_n 0, 1) := by decide +kernel
theorem d1_26 : decode prog_17_method_1_code 26 = .ok (.dload_n 1, 1) := by decide +kernel
theorem d1_27 : decode prog_17_method_1_code 27 = .ok (.putfield 16, 3) := by decide +kernel
theorem d1_30 : decode prog_17_method_1_code 30 = .ok (.aload_n 0, 1) := by decide +kernel
theorem d1_31 : decode prog_17_method_1_code 31 = .ok (.dload_n 3, 1) := by decide +kernel
theorem d1_32 : decode prog_17_method_1_code 32 = .ok (.putfield 22, 3) := by decide +kernel
theorem d1_35 : decode prog_17_method_1_code 35 = .ok (.aload_n 0, 1) := by decide +kernel
theorem d1_36 : decode prog_17_method_1_code 36 = .ok (.iload 5, 2) := by decide +kernel
theorem d1_38 : decode prog_17_method_1_code 38 = .ok (.putfield 25, 3) := by decide +kernel
theorem d1_41 : decode prog_17_method_1_code 41 = .ok (.return_, 1) := by decide +kernel
theorem d2_0 : decode jdk_30_method_1_code 0 = .ok (.aload_n 0, 1) := by decide +kernel
theorem d2_1 : decode jdk_30_method_1_code 1 = .ok (.invokespecial 1, 3) := by decide +kernel
theorem d2_4 : decode jdk_30_method_1_code 4 = .ok (.return_, 1) := by decide +kernel
theorem d4_0 : decode prog_17_method_4_code 0 = .ok (.iload_n 1, 1) := by decide +kernel
theorem d4_1 : decode prog_17_method_4_code 1 = .ok (.aload_n 0, 1) := by decide +kernel
theorem d4_2 : decode prog_17_method_4_code 2 = .ok (.getfield 25, 3) := by decide +kernel
theorem d4_5 : decode prog_17_method_4_code 5 = .ok (.if_icmp .ne 8, 3) := by decide +kernel
theorem d4_8 : decode prog_17_method_4_code 8 = .ok (.aload_n 0, 1) := by decide +kernel
theorem d4_9 : decode prog_17_method_4_code 9 = .ok (.getfield 22, 3) := by decide +kernel
theorem d4_12 : decode prog_17_method_4_code 12 = .ok (.dreturn, 1) := by decide +kernel
theorem d4_13 : decode prog_17_method_4_code 13 = .ok (.aload_n 0, 1) := by decide +kernel
theorem d4_14 : decode prog_17_method_4_code 14 = .ok (.getfield 16, 3) := by decide +kernel
theorem d4_17 : decode prog_17_method_4_code 17 = .ok (.aload_n 0, 1) := by decide +kernel
theorem d4_18 : decode prog_17_method_4_code 18 = .ok (.getfield 22, 3) := by decide +kernel
theorem d4_21 : decode prog_17_method_4_code 21 = .ok (.aload_n 0, 1) := by decide +kernel
theorem d4_22 : decode prog_17_method_4_code 22 = .ok (.getfield 16, 3) := by decide +kernel
theorem d4_25 : decode prog_17_method_4_code 25 = .ok (.dsub, 1) := by decide +kernel
theorem d4_26 : decode prog_17_method_4_code 26 = .ok (.iload_n 1, 1) := by decide +kernel
theorem d4_27 : decode prog_17_method_4_code 27 = .ok (.i2d, 1) := by decide +kernel
theorem d4_28 : decode prog_17_method_4_code 28 = .ok (.dmul, 1) := by decide +kernel
theorem d4_29 : decode prog_17_method_4_code 29 = .ok (.aload_n 0, 1) := by decide +kernel
theorem d4_30 : decode prog_17_method_4_code 30 = .ok (.getfield 25, 3) := by decide +kernel
theorem d4_33 : decode prog_17_method_4_code 33 = .ok (.i2d, 1) := by decide +kernel
theorem d4_34 : decode prog_17_method_4_code 34 = .ok (.ddiv, 1) := by decide +kernel
theorem d4_35 : decode prog_17_method_4_code 35 = .ok (.dadd, 1) := by decide +kernel
theorem d4_36 : decode prog_17_method_4_code 36 = .ok (.dreturn, 1) := by decide +kernel
theorem pn_0 : plainName "java/lang/Record" = true := by first | (simp [plainName, overriddenIn]; done) | decide +kernel
theorem pn_1 : plainName "com/example/trailhive/trailhive/DaySlices" = true := by first | (simp [plainName, overriddenIn]; done) | decide +kernel
theorem pn_2 : plainName "com/example/trailhive/trailhive/DaySlicesBoundaryPinLaw" = true := by first | (simp [plainName, overriddenIn]; done) | decide +kernel
theorem pd_0 : parseMethodDescriptor "()V" = some ⟨[], none⟩ := by decide +kernel
theorem pd_1 : parseMethodDescriptor "(DDI)V" = some ⟨[.double, .double, .int], none⟩ := by decide +kernel
theorem pd_2 : parseMethodDescriptor "(I)D" = some ⟨[.int], some .double⟩ := by decide +kernel
theorem ef_rc (m : MethodId) (a1 : Addr) : entryFrame m #[(.ref a1)] 1 = (mkF m 0 #[.val (.ref a1)] []) := by first | (simp [entryFrame, mkF, argsToLocals, Value.category]; done) | rfl
def Q_rc (Z : State) (a1 : Addr)  (h0 : Heap) (n0 : Nat) (v : Option Value) (h : Heap) (L : List Loc) : Prop := v = none ∧ Fr n0 L ∧ h = h0
set_option maxRecDepth 65536 in
set_option maxHeartbeats 40000000 in
theorem rm_rc (l : Launch) (Z : State) (a0 : Array Value) (hw : ∀ d ∈ tables_1, d.before a0 Z = true) (ws : List Jvm.Cond) (a1 : Addr)  (h0 : Heap) (n0 : Nat) (Z0 : n0 ≤ h0.size)    :
    MetFree l (⟨"java/lang/Record", "<init>", "()V"⟩ : MethodName) (head1 (Jvm.Cond.code (⟨"java/lang/Record", "<init>", "()V"⟩ : MethodName) jdk_30_method_1_code 1 none :: ws) ({ frames := 1, cells := 0, slots := 0, locals := 12 } : Room)) (fun a U => a = #[(.ref a1)] ∧ Z.Warmed39 U.vm ∧ U.heap = h0) (fun _ _ _ _ _ => True) (fun _ U o U' => ∃ v L, o = .returned v ∧ Q_rc Z a1  h0 n0 v U'.heap L ∧ FrameEnd U o U' L ({ frames := 1, cells := 0, slots := 0, locals := 12 } : Room).cells ({ frames := 1, cells := 0, slots := 0, locals := 12 } : Room).slots) := by
  refine MetFree.of_bodySF (plainFor_of_name pn_0) hisR ?_
  intro p e s m args below meth c s₁ Bd hml0 hP hK
  obtain ⟨rfl, hZ, hh⟩ := hP
  have hx := Bd.exec
  have hby := Bd.bytes
  have hml : c.maxLocals = 1 := hml0
  have hown : s.vm.findClass "java/lang/Record" = some m.cls := findClass_of_methodNamed Bd.named
  have hnm := (name_of_methodNamed Bd.named Bd.method).1
  have X0 : Stand p l e ({ frames := 1, cells := 0, slots := 0, locals := 12 } : Room) s m #[(.ref a1)] below meth c s₁ [] 0 0 := Stand.of_body Bd
  have e0 : s₁.heap = h0 := by rw [← hh, Bd.state]; rfl
  have N0 := Fr.nil n0
  have pre0 : ∀ t, Steps p.tables e below (s₁.setTop (mkF m 0 #[.val (.ref a1)] [])) t → Steps p.tables e below (s₁.setTop (entryFrame m #[(.ref a1)] 1)) t := fun t k => castTop (ef_rc m a1) k
  obtain ⟨T1, X1, e1, st1⟩ := initO X0 hx hZ hown (hw _ (List.mem_of_getElem? (i := 13) rfl)) (hw _ (List.mem_of_getElem? (i := 14) rfl)) (hw _ (List.mem_of_getElem? (i := 15) rfl)) e0 (g := (mkF m 1 #[.val (.ref a1)] [(.ref a1)])) rfl (by rw [hml]; rfl) rfl (hb hby d2_1) (by decide) (W := 0) (by show 2 * 0 + _ ≤ _; exact Nat.le_of_eq rfl) (by decide)
  obtain ⟨fs, hr, hrun, hended, hW, hsame⟩ := X1.leave (v := none) (fun _ => rfl)
  refine ⟨_, _, pre0 _ ?_, hrun, hended, _, _, rfl, ?_, ⟨_, rfl⟩, hW, hsame.mono (Nat.le_of_ble_eq_true rfl) (Nat.le_of_ble_eq_true rfl)⟩
  · show Steps p.tables e below (s₁.setTop (mkF m 0 #[.val (.ref a1)] [])) _
    refine XS.aloadN X0.here hx rfl (hb hby d2_0) rfl rfl ?_
    show Steps p.tables e below (s₁.setTop (mkF m 1 #[.val (.ref a1)] [(.ref a1)])) _
    refine st1 _ ?_
    show Steps p.tables e below (T1.setTop (mkF m 4 #[.val (.ref a1)] [])) _
    exact X1.returnOut hx Bd.returns (hb hby d2_4) hr
  · show Q_rc Z a1  h0 n0 _ T1.heap _
    exact ⟨rfl, N0, e1⟩
theorem ef_ini (m : MethodId) (a1 : Addr) (d1 : UInt64) (d2 : UInt64) (i1 : Int32) : entryFrame m #[(.ref a1), (.double d1), (.double d2), (.int i1)] 6 = (mkF m 0 #[.val (.ref a1), .val (.double d1), .second, .val (.double d2), .second, .val (.int i1)] []) := by first | (simp [entryFrame, mkF, argsToLocals, Value.category]; done) | rfl
def Q_ini (Z : State) (a1 : Addr) (d1 : UInt64) (d2 : UInt64) (i1 : Int32)  (h0 : Heap) (n0 : Nat) (v : Option Value) (h : Heap) (L : List Loc) : Prop := v = none ∧ Fr n0 L ∧ Keep h0 h [a1] ∧ (Exa Z h a1 "com/example/trailhive/trailhive/DaySlices") ∧ (Fld Z h a1 "com/example/trailhive/trailhive/DaySlices" "opens" "D" (.double d1)) ∧ (Fld Z h a1 "com/example/trailhive/trailhive/DaySlices" "closes" "D" (.double d2)) ∧ (Fld Z h a1 "com/example/trailhive/trailhive/DaySlices" "count" "I" (.int i1))
set_option maxRecDepth 65536 in
set_option maxHeartbeats 40000000 in
theorem rm_ini (l : Launch) (Z : State) (a0 : Array Value) (hw : ∀ d ∈ tables_1, d.before a0 Z = true) (ws : List Jvm.Cond) (a1 : Addr) (d1 : UInt64) (d2 : UInt64) (i1 : Int32)  (h0 : Heap) (n0 : Nat) (Z0 : n0 ≤ h0.size) (k0_ : Fld Z h0 a1 "com/example/trailhive/trailhive/DaySlices" "opens" "D" (.double (0 : UInt64))) (k1_ : Fld Z h0 a1 "com/example/trailhive/trailhive/DaySlices" "closes" "D" (.double (0 : UInt64))) (k2_ : Fld Z h0 a1 "com/example/trailhive/trailhive/DaySlices" "count" "I" (.int (0 : Int32))) (k3_ : Exa Z h0 a1 "com/example/trailhive/trailhive/DaySlices") (k4_ : n0 ≤ a1) (hge : if_icmp.holds .ge i1 (1 : Int32) = true)  :
    MetFree l (⟨"com/example/trailhive/trailhive/DaySlices", "<init>", "(DDI)V"⟩ : MethodName) (head1 (Jvm.Cond.code (⟨"com/example/trailhive/trailhive/DaySlices", "<init>", "(DDI)V"⟩ : MethodName) prog_17_method_1_code 6 none :: ws) ({ frames := 2, cells := 0, slots := 0, locals := 24 } : Room)) (fun a U => a = #[(.ref a1), (.double d1), (.double d2), (.int i1)] ∧ Z.Warmed39 U.vm ∧ U.heap = h0) (fun _ _ _ _ _ => True) (fun _ U o U' => ∃ v L, o = .returned v ∧ Q_ini Z a1 d1 d2 i1  h0 n0 v U'.heap L ∧ FrameEnd U o U' L ({ frames := 2, cells := 0, slots := 0, locals := 24 } : Room).cells ({ frames := 2, cells := 0, slots := 0, locals := 24 } : Room).slots) := by
  refine MetFree.of_bodySF (plainFor_of_name pn_1) hisR ?_
  intro p e s m args below meth c s₁ Bd hml0 hP hK
  obtain ⟨rfl, hZ, hh⟩ := hP
  have hx := Bd.exec
  have hby := Bd.bytes
  have hml : c.maxLocals = 6 := hml0
  have hown : s.vm.findClass "com/example/trailhive/trailhive/DaySlices" = some m.cls := findClass_of_methodNamed Bd.named
  have hnm := (name_of_methodNamed Bd.named Bd.method).1
  have X0 : Stand p l e ({ frames := 2, cells := 0, slots := 0, locals := 24 } : Room) s m #[(.ref a1), (.double d1), (.double d2), (.int i1)] below meth c s₁ [] 0 0 := Stand.of_body Bd
  have e0 : s₁.heap = h0 := by rw [← hh, Bd.state]; rfl
  have N0 := Fr.nil n0
  have pre0 : ∀ t, Steps p.tables e below (s₁.setTop (mkF m 0 #[.val (.ref a1), .val (.double d1), .second, .val (.double d2), .second, .val (.int i1)] [])) t → Steps p.tables e below (s₁.setTop (entryFrame m #[(.ref a1), (.double d1), (.double d2), (.int i1)] 6)) t := fun t k => castTop (ef_ini m a1 d1 d2 i1) k
  have K0 := Keep.refl h0 [a1]
  obtain ⟨_, _, ⟨T1, L1, k1, n1⟩, -, X1, ⟨Lc1, hQ1, l1, y1, z1⟩, st1⟩ := X0.specialBack hx (y := (⟨"java/lang/Record", "<init>", "()V"⟩ : MethodName)) rfl hown (mvT hZ (hw _ (List.mem_of_getElem? (i := 8) rfl))) (mvT hZ (hw _ (List.mem_of_getElem? (i := 9) rfl))) (mvT hZ (hw _ (List.mem_of_getElem? (i := 12) rfl))) (by decide) (backOf (W := 0) (rm_rc l Z a0 hw [] a1  (h0) n0 Z0  ) hZ (hw _ (List.mem_of_getElem? (i := 12) rfl)) (hw _ (List.mem_of_getElem? (i := 11) rfl)) (by decide) (by decide)) (g := (mkF m 1 #[.val (.ref a1), .val (.double d1), .second, .val (.double d2), .second, .val (.int i1)] [(.ref a1)])) rfl (by rw [hml]; rfl) (Steps.refl _) (a := a1) (argsL := []) (rest := []) (lenOf pd_0 rfl) rfl (by show 2 * 0 + _ ≤ _; exact Nat.le_of_eq rfl) (hb hby d1_1) (fun _ _ => ⟨rfl, e0, (by decide : 0 + 0 ≤ _), (by decide : 0 + 0 ≤ _)⟩)
  dsimp only [Pt.U, Pt.locs, Pt.cells, Pt.slots] at X1 l1 y1 z1 st1 hQ1
  subst l1 y1 z1
  obtain ⟨rfl, N1, e1⟩ := hQ1
  have Nn1 := Fr.app N0 N1
  obtain ⟨T2, h2, X2, e2, W2, st2⟩ := putF X1 hx hZ hown (host := "") (Or.inl (hw _ (List.mem_of_getElem? (i := 16) rfl))) Via.refl e1 k0_ k3_ (Or.inr ⟨(hw _ (List.mem_of_getElem? (i := 17) rfl)), rfl, hnm⟩) (hw _ (List.mem_of_getElem? (i := 3) rfl)) (ty := .double) (by decide) rfl rfl (g := (mkF m 27 #[.val (.ref a1), .val (.double d1), .second, .val (.double d2), .second, .val (.int i1)] [(.double d1), (.ref a1)])) rfl rfl (hb hby d1_27)
  have Nn2 := Fr.snoc X2 Nn1 k4_
  have q3 : Fld Z h2 a1 "com/example/trailhive/trailhive/DaySlices" "closes" "D" (.double (0 : UInt64)) := (k1_.other W2 (Or.inr (slot_ne (a0 := a0) (C := "com/example/trailhive/trailhive/DaySlices") (Or.inr (hw _ (List.mem_of_getElem? (i := 19) rfl))) (Or.inr (hw _ (List.mem_of_getElem? (i := 17) rfl))) (by decide) (t := .double) (t' := .double) (by decide) (by decide))))
  have q4 : Fld Z h2 a1 "com/example/trailhive/trailhive/DaySlices" "count" "I" (.int (0 : Int32)) := (k2_.other W2 (Or.inr (slot_ne (a0 := a0) (C := "com/example/trailhive/trailhive/DaySlices") (Or.inr (hw _ (List.mem_of_getElem? (i := 21) rfl))) (Or.inr (hw _ (List.mem_of_getElem? (i := 17) rfl))) (by decide) (t := .int) (t' := .double) (by decide) (by decide))))
  have q5 : Exa Z h2 a1 "com/example/trailhive/trailhive/DaySlices" := (k3_.wr W2)
  have q2n : Fld Z h2 a1 "com/example/trailhive/trailhive/DaySlices" "opens" "D" (.double d1) := (k0_.same W2)
  have K2 := K0.wr W2 (Or.inl (List.mem_of_getElem? (i := 0) rfl))
  have Z2 : n0 ≤ h2.size := Nat.le_trans Z0 (Keep.of_wr W2).1
  obtain ⟨T6, h6, X6, e6, W6, st6⟩ := putF X2 hx hZ hown (host := "") (Or.inl (hw _ (List.mem_of_getElem? (i := 18) rfl))) Via.refl e2 q3 q5 (Or.inr ⟨(hw _ (List.mem_of_getElem? (i := 19) rfl)), rfl, hnm⟩) (hw _ (List.mem_of_getElem? (i := 3) rfl)) (ty := .double) (by decide) rfl rfl (g := (mkF m 32 #[.val (.ref a1), .val (.double d1), .second, .val (.double d2), .second, .val (.int i1)] [(.double d2), (.ref a1)])) rfl rfl (hb hby d1_32)
  have Nn6 := Fr.snoc X6 Nn2 k4_
  have q7 : Fld Z h6 a1 "com/example/trailhive/trailhive/DaySlices" "count" "I" (.int (0 : Int32)) := (q4.other W6 (Or.inr (slot_ne (a0 := a0) (C := "com/example/trailhive/trailhive/DaySlices") (Or.inr (hw _ (List.mem_of_getElem? (i := 21) rfl))) (Or.inr (hw _ (List.mem_of_getElem? (i := 19) rfl))) (by decide) (t := .int) (t' := .double) (by decide) (by decide))))
  have q8 : Exa Z h6 a1 "com/example/trailhive/trailhive/DaySlices" := (q5.wr W6)
  have q9 : Fld Z h6 a1 "com/example/trailhive/trailhive/DaySlices" "opens" "D" (.double d1) := (q2n.other W6 (Or.inr (slot_ne (a0 := a0) (C := "com/example/trailhive/trailhive/DaySlices") (Or.inr (hw _ (List.mem_of_getElem? (i := 17) rfl))) (Or.inr (hw _ (List.mem_of_getElem? (i := 19) rfl))) (by decide) (t := .double) (t' := .double) (by decide) (by decide))))
  have q6n : Fld Z h6 a1 "com/example/trailhive/trailhive/DaySlices" "closes" "D" (.double d2) := (q3.same W6)
  have K6 := K2.wr W6 (Or.inl (List.mem_of_getElem? (i := 0) rfl))
  have Z6 : n0 ≤ h6.size := Nat.le_trans Z2 (Keep.of_wr W6).1
  obtain ⟨T10, h10, X10, e10, W10, st10⟩ := putF X6 hx hZ hown (host := "") (Or.inl (hw _ (List.mem_of_getElem? (i := 20) rfl))) Via.refl e6 q7 q8 (Or.inr ⟨(hw _ (List.mem_of_getElem? (i := 21) rfl)), rfl, hnm⟩) (hw _ (List.mem_of_getElem? (i := 3) rfl)) (ty := .int) (by decide) rfl rfl (g := (mkF m 38 #[.val (.ref a1), .val (.double d1), .second, .val (.double d2), .second, .val (.int i1)] [(.int i1), (.ref a1)])) rfl rfl (hb hby d1_38)
  have Nn10 := Fr.snoc X10 Nn6 k4_
  have q11 : Exa Z h10 a1 "com/example/trailhive/trailhive/DaySlices" := (q8.wr W10)
  have q12 : Fld Z h10 a1 "com/example/trailhive/trailhive/DaySlices" "opens" "D" (.double d1) := (q9.other W10 (Or.inr (slot_ne (a0 := a0) (C := "com/example/trailhive/trailhive/DaySlices") (Or.inr (hw _ (List.mem_of_getElem? (i := 17) rfl))) (Or.inr (hw _ (List.mem_of_getElem? (i := 21) rfl))) (by decide) (t := .double) (t' := .int) (by decide) (by decide))))
  have q13 : Fld Z h10 a1 "com/example/trailhive/trailhive/DaySlices" "closes" "D" (.double d2) := (q6n.other W10 (Or.inr (slot_ne (a0 := a0) (C := "com/example/trailhive/trailhive/DaySlices") (Or.inr (hw _ (List.mem_of_getElem? (i := 19) rfl))) (Or.inr (hw _ (List.mem_of_getElem? (i := 21) rfl))) (by decide) (t := .double) (t' := .int) (by decide) (by decide))))
  have q10n : Fld Z h10 a1 "com/example/trailhive/trailhive/DaySlices" "count" "I" (.int i1) := (q7.same W10)
  have K10 := K6.wr W10 (Or.inl (List.mem_of_getElem? (i := 0) rfl))
  have Z10 : n0 ≤ h10.size := Nat.le_trans Z6 (Keep.of_wr W10).1
  obtain ⟨fs, hr, hrun, hended, hW, hsame⟩ := X10.leave (v := none) (fun _ => rfl)
  refine ⟨_, _, pre0 _ ?_, hrun, hended, _, _, rfl, ?_, ⟨_, rfl⟩, hW, hsame.mono (Nat.le_of_ble_eq_true rfl) (Nat.le_of_ble_eq_true rfl)⟩
  · show Steps p.tables e below (s₁.setTop (mkF m 0 #[.val (.ref a1), .val (.double d1), .second, .val (.double d2), .second, .val (.int i1)] [])) _
    refine XS.aloadN X0.here hx rfl (hb hby d1_0) rfl rfl ?_
    show Steps p.tables e below (s₁.setTop (mkF m 1 #[.val (.ref a1), .val (.double d1), .second, .val (.double d2), .second, .val (.int i1)] [(.ref a1)])) _
    refine st1.trans ?_
    show Steps p.tables e below (T1.setTop (mkF m 4 #[.val (.ref a1), .val (.double d1), .second, .val (.double d2), .second, .val (.int i1)] [])) _
    refine XS.iload X1.here hx rfl (hb hby d1_4) rfl ?_
    show Steps p.tables e below (T1.setTop (mkF m 6 #[.val (.ref a1), .val (.double d1), .second, .val (.double d2), .second, .val (.int i1)] [(.int i1)])) _
    refine XS.iconst X1.here hx rfl (hb hby d1_6) ?_
    show Steps p.tables e below (T1.setTop (mkF m 7 #[.val (.ref a1), .val (.double d1), .second, .val (.double d2), .second, .val (.int i1)] [(.int (1 : Int32)), (.int i1)])) _
    refine XS.icmpYes X1.here hx rfl (pc0 := 7) (pc' := 25) rfl (hb hby d1_7) rfl hge (by decide) (by decide) ?_
    show Steps p.tables e below (T1.setTop (mkF m 25 #[.val (.ref a1), .val (.double d1), .second, .val (.double d2), .second, .val (.int i1)] [])) _
    refine XS.aloadN X1.here hx rfl (hb hby d1_25) rfl rfl ?_
    show Steps p.tables e below (T1.setTop (mkF m 26 #[.val (.ref a1), .val (.double d1), .second, .val (.double d2), .second, .val (.int i1)] [(.ref a1)])) _
    refine XS.dloadN X1.here hx rfl (hb hby d1_26) rfl ?_
    show Steps p.tables e below (T1.setTop (mkF m 27 #[.val (.ref a1), .val (.double d1), .second, .val (.double d2), .second, .val (.int i1)] [(.double d1), (.ref a1)])) _
    refine st2 _ ?_
    show Steps p.tables e below (T2.setTop (mkF m 30 #[.val (.ref a1), .val (.double d1), .second, .val (.double d2), .second, .val (.int i1)] [])) _
    refine XS.aloadN X2.here hx rfl (hb hby d1_30) rfl rfl ?_
    show Steps p.tables e below (T2.setTop (mkF m 31 #[.val (.ref a1), .val (.double d1), .second, .val (.double d2), .second, .val (.int i1)] [(.ref a1)])) _
    refine XS.dloadN X2.here hx rfl (hb hby d1_31) rfl ?_
    show Steps p.tables e below (T2.setTop (mkF m 32 #[.val (.ref a1), .val (.double d1), .second, .val (.double d2), .second, .val (.int i1)] [(.double d2), (.ref a1)])) _
    refine st6 _ ?_
    show Steps p.tables e below (T6.setTop (mkF m 35 #[.val (.ref a1), .val (.double d1), .second, .val (.double d2), .second, .val (.int i1)] [])) _
    refine XS.aloadN X6.here hx rfl (hb hby d1_35) rfl rfl ?_
    show Steps p.tables e below (T6.setTop (mkF m 36 #[.val (.ref a1), .val (.double d1), .second, .val (.double d2), .second, .val (.int i1)] [(.ref a1)])) _
    refine XS.iload X6.here hx rfl (hb hby d1_36) rfl ?_
    show Steps p.tables e below (T6.setTop (mkF m 38 #[.val (.ref a1), .val (.double d1), .second, .val (.double d2), .second, .val (.int i1)] [(.int i1), (.ref a1)])) _
    refine st10 _ ?_
    show Steps p.tables e below (T10.setTop (mkF m 41 #[.val (.ref a1), .val (.double d1), .second, .val (.double d2), .second, .val (.int i1)] [])) _
    exact X10.returnOut hx Bd.returns (hb hby d1_41) hr
  · show Q_ini Z a1 d1 d2 i1  h0 n0 _ T10.heap _
    rw [e10]
    exact ⟨rfl, Nn10, K10, q11, q12, q13, q10n⟩
theorem ef_b1 (m : MethodId) (a1 : Addr) (i1 : Int32) : entryFrame m #[(.ref a1), (.int i1)] 2 = (mkF m 0 #[.val (.ref a1), .val (.int i1)] []) := by first | (simp [entryFrame, mkF, argsToLocals, Value.category]; done) | rfl
def Q_b1 (Z : State) (a1 : Addr) (i1 : Int32) (d8 : UInt64) (d9 : UInt64) (i9 : Int32) (h0 : Heap) (n0 : Nat) (v : Option Value) (h : Heap) (L : List Loc) : Prop := v = some (.double d9) ∧ Fr n0 L ∧ h = h0
set_option maxRecDepth 65536 in
set_option maxHeartbeats 40000000 in
theorem rm_b1 (l : Launch) (Z : State) (a0 : Array Value) (hw : ∀ d ∈ tables_1, d.before a0 Z = true) (ws : List Jvm.Cond) (a1 : Addr) (i1 : Int32) (d8 : UInt64) (d9 : UInt64) (i9 : Int32) (h0 : Heap) (n0 : Nat) (Z0 : n0 ≤ h0.size) (k0_ : Fld Z h0 a1 "com/example/trailhive/trailhive/DaySlices" "opens" "D" (.double d8)) (k1_ : Fld Z h0 a1 "com/example/trailhive/trailhive/DaySlices" "closes" "D" (.double d9)) (k2_ : Fld Z h0 a1 "com/example/trailhive/trailhive/DaySlices" "count" "I" (.int i9)) (hc : if_icmp.holds .ne i1 i9 = false)  :
    MetFree l (⟨"com/example/trailhive/trailhive/DaySlices", "boundary", "(I)D"⟩ : MethodName) (head1 (Jvm.Cond.code (⟨"com/example/trailhive/trailhive/DaySlices", "boundary", "(I)D"⟩ : MethodName) prog_17_method_4_code 2 (some .double) :: ws) ({ frames := 0, cells := 0, slots := 0, locals := 0 } : Room)) (fun a U => a = #[(.ref a1), (.int i1)] ∧ Z.Warmed39 U.vm ∧ U.heap = h0) (fun _ _ _ _ _ => True) (fun _ U o U' => ∃ v L, o = .returned v ∧ Q_b1 Z a1 i1 d8 d9 i9 h0 n0 v U'.heap L ∧ FrameEnd U o U' L ({ frames := 0, cells := 0, slots := 0, locals := 0 } : Room).cells ({ frames := 0, cells := 0, slots := 0, locals := 0 } : Room).slots) := by
  refine MetFree.of_bodySF (plainFor_of_name pn_1) hisR ?_
  intro p e s m args below meth c s₁ Bd hml0 hP hK
  obtain ⟨rfl, hZ, hh⟩ := hP
  have hx := Bd.exec
  have hby := Bd.bytes
  have hml : c.maxLocals = 2 := hml0
  have hown : s.vm.findClass "com/example/trailhive/trailhive/DaySlices" = some m.cls := findClass_of_methodNamed Bd.named
  have hnm := (name_of_methodNamed Bd.named Bd.method).1
  have X0 : Stand p l e ({ frames := 0, cells := 0, slots := 0, locals := 0 } : Room) s m #[(.ref a1), (.int i1)] below meth c s₁ [] 0 0 := Stand.of_body Bd
  have e0 : s₁.heap = h0 := by rw [← hh, Bd.state]; rfl
  have N0 := Fr.nil n0
  have pre0 : ∀ t, Steps p.tables e below (s₁.setTop (mkF m 0 #[.val (.ref a1), .val (.int i1)] [])) t → Steps p.tables e below (s₁.setTop (entryFrame m #[(.ref a1), (.int i1)] 2)) t := fun t k => castTop (ef_b1 m a1 i1) k
  obtain ⟨T1, X1, e1, st1⟩ := getF X0 hx hZ hown (host := "") (Or.inl (hw _ (List.mem_of_getElem? (i := 20) rfl))) Via.refl e0 k2_ (g := (mkF m 2 #[.val (.ref a1), .val (.int i1)] [(.ref a1), (.int i1)])) rfl rfl (hb hby d4_2)
  obtain ⟨T2, X2, e2, st2⟩ := getF X1 hx hZ hown (host := "") (Or.inl (hw _ (List.mem_of_getElem? (i := 18) rfl))) Via.refl e1 k1_ (g := (mkF m 9 #[.val (.ref a1), .val (.int i1)] [(.ref a1)])) rfl rfl (hb hby d4_9)
  obtain ⟨fs, hr, hrun, hended, hW, hsame⟩ := X2.leave (v := some (.double d9)) (fun h => by rw [Bd.returns] at h; cases h)
  refine ⟨_, _, pre0 _ ?_, hrun, hended, _, _, rfl, ?_, ⟨_, rfl⟩, hW, hsame.mono (Nat.le_of_ble_eq_true rfl) (Nat.le_of_ble_eq_true rfl)⟩
  · show Steps p.tables e below (s₁.setTop (mkF m 0 #[.val (.ref a1), .val (.int i1)] [])) _
    refine XS.iloadN X0.here hx rfl (hb hby d4_0) rfl ?_
    show Steps p.tables e below (s₁.setTop (mkF m 1 #[.val (.ref a1), .val (.int i1)] [(.int i1)])) _
    refine XS.aloadN X0.here hx rfl (hb hby d4_1) rfl rfl ?_
    show Steps p.tables e below (s₁.setTop (mkF m 2 #[.val (.ref a1), .val (.int i1)] [(.ref a1), (.int i1)])) _
    refine st1 _ ?_
    show Steps p.tables e below (T1.setTop (mkF m 5 #[.val (.ref a1), .val (.int i1)] [(.int i9), (.int i1)])) _
    refine XS.icmpNo X1.here hx rfl (hb hby d4_5) rfl hc ?_
    show Steps p.tables e below (T1.setTop (mkF m 8 #[.val (.ref a1), .val (.int i1)] [])) _
    refine XS.aloadN X1.here hx rfl (hb hby d4_8) rfl rfl ?_
    show Steps p.tables e below (T1.setTop (mkF m 9 #[.val (.ref a1), .val (.int i1)] [(.ref a1)])) _
    refine st2 _ ?_
    show Steps p.tables e below (T2.setTop (mkF m 12 #[.val (.ref a1), .val (.int i1)] [(.double d9)])) _
    exact retOut X2 hx (t := .double) Bd.returns rfl (Or.inr (Or.inr (Or.inl ⟨rfl, rfl, _, rfl⟩))) (hb hby d4_12) hr
  · show Q_b1 Z a1 i1 d8 d9 i9 h0 n0 _ T2.heap _
    exact ⟨rfl, N0, e2⟩
theorem ef_b2 (m : MethodId) (a1 : Addr) (i1 : Int32) : entryFrame m #[(.ref a1), (.int i1)] 2 = (mkF m 0 #[.val (.ref a1), .val (.int i1)] []) := by first | (simp [entryFrame, mkF, argsToLocals, Value.category]; done) | rfl
def Q_b2 (Z : State) (a1 : Addr) (i1 : Int32) (d8 : UInt64) (d9 : UInt64) (i9 : Int32) (h0 : Heap) (n0 : Nat) (v : Option Value) (h : Heap) (L : List Loc) : Prop := v = some (.double (FP.dadd d8 (FP.ddiv (FP.dmul (FP.dsub d9 d8) (FP.i2d i1)) (FP.i2d i9)))) ∧ Fr n0 L ∧ h = h0
set_option maxRecDepth 65536 in
set_option maxHeartbeats 40000000 in
theorem rm_b2 (l : Launch) (Z : State) (a0 : Array Value) (hw : ∀ d ∈ tables_1, d.before a0 Z = true) (ws : List Jvm.Cond) (a1 : Addr) (i1 : Int32) (d8 : UInt64) (d9 : UInt64) (i9 : Int32) (h0 : Heap) (n0 : Nat) (Z0 : n0 ≤ h0.size) (k0_ : Fld Z h0 a1 "com/example/trailhive/trailhive/DaySlices" "opens" "D" (.double d8)) (k1_ : Fld Z h0 a1 "com/example/trailhive/trailhive/DaySlices" "closes" "D" (.double d9)) (k2_ : Fld Z h0 a1 "com/example/trailhive/trailhive/DaySlices" "count" "I" (.int i9)) (hc : if_icmp.holds .ne i1 i9 = true) (nn25 : Jvm.Free.Fl.NoNaN64 (FP.dsub d9 d8)) (nn28 : Jvm.Free.Fl.NoNaN64 (FP.dmul (FP.dsub d9 d8) (FP.i2d i1))) (nn34 : Jvm.Free.Fl.NoNaN64 (FP.ddiv (FP.dmul (FP.dsub d9 d8) (FP.i2d i1)) (FP.i2d i9))) (nn35 : Jvm.Free.Fl.NoNaN64 (FP.dadd d8 (FP.ddiv (FP.dmul (FP.dsub d9 d8) (FP.i2d i1)) (FP.i2d i9)))) :
    MetFree l (⟨"com/example/trailhive/trailhive/DaySlices", "boundary", "(I)D"⟩ : MethodName) (head1 (Jvm.Cond.code (⟨"com/example/trailhive/trailhive/DaySlices", "boundary", "(I)D"⟩ : MethodName) prog_17_method_4_code 2 (some .double) :: ws) ({ frames := 0, cells := 0, slots := 0, locals := 0 } : Room)) (fun a U => a = #[(.ref a1), (.int i1)] ∧ Z.Warmed39 U.vm ∧ U.heap = h0) (fun _ _ _ _ _ => True) (fun _ U o U' => ∃ v L, o = .returned v ∧ Q_b2 Z a1 i1 d8 d9 i9 h0 n0 v U'.heap L ∧ FrameEnd U o U' L ({ frames := 0, cells := 0, slots := 0, locals := 0 } : Room).cells ({ frames := 0, cells := 0, slots := 0, locals := 0 } : Room).slots) := by
  refine MetFree.of_bodySF (plainFor_of_name pn_1) hisR ?_
  intro p e s m args below meth c s₁ Bd hml0 hP hK
  obtain ⟨rfl, hZ, hh⟩ := hP
  have hx := Bd.exec
  have hby := Bd.bytes
  have hml : c.maxLocals = 2 := hml0
  have hown : s.vm.findClass "com/example/trailhive/trailhive/DaySlices" = some m.cls := findClass_of_methodNamed Bd.named
  have hnm := (name_of_methodNamed Bd.named Bd.method).1
  have X0 : Stand p l e ({ frames := 0, cells := 0, slots := 0, locals := 0 } : Room) s m #[(.ref a1), (.int i1)] below meth c s₁ [] 0 0 := Stand.of_body Bd
  have e0 : s₁.heap = h0 := by rw [← hh, Bd.state]; rfl
  have N0 := Fr.nil n0
  have pre0 : ∀ t, Steps p.tables e below (s₁.setTop (mkF m 0 #[.val (.ref a1), .val (.int i1)] [])) t → Steps p.tables e below (s₁.setTop (entryFrame m #[(.ref a1), (.int i1)] 2)) t := fun t k => castTop (ef_b2 m a1 i1) k
  obtain ⟨T1, X1, e1, st1⟩ := getF X0 hx hZ hown (host := "") (Or.inl (hw _ (List.mem_of_getElem? (i := 20) rfl))) Via.refl e0 k2_ (g := (mkF m 2 #[.val (.ref a1), .val (.int i1)] [(.ref a1), (.int i1)])) rfl rfl (hb hby d4_2)
  obtain ⟨T2, X2, e2, st2⟩ := getF X1 hx hZ hown (host := "") (Or.inl (hw _ (List.mem_of_getElem? (i := 16) rfl))) Via.refl e1 k0_ (g := (mkF m 14 #[.val (.ref a1), .val (.int i1)] [(.ref a1)])) rfl rfl (hb hby d4_14)
  obtain ⟨T3, X3, e3, st3⟩ := getF X2 hx hZ hown (host := "") (Or.inl (hw _ (List.mem_of_getElem? (i := 18) rfl))) Via.refl e2 k1_ (g := (mkF m 18 #[.val (.ref a1), .val (.int i1)] [(.ref a1), (.double d8)])) rfl rfl (hb hby d4_18)
  obtain ⟨T4, X4, e4, st4⟩ := getF X3 hx hZ hown (host := "") (Or.inl (hw _ (List.mem_of_getElem? (i := 16) rfl))) Via.refl e3 k0_ (g := (mkF m 22 #[.val (.ref a1), .val (.int i1)] [(.ref a1), (.double d9), (.double d8)])) rfl rfl (hb hby d4_22)
  obtain ⟨T5, X5, e5, st5⟩ := getF X4 hx hZ hown (host := "") (Or.inl (hw _ (List.mem_of_getElem? (i := 20) rfl))) Via.refl e4 k2_ (g := (mkF m 30 #[.val (.ref a1), .val (.int i1)] [(.ref a1), (.double (FP.dmul (FP.dsub d9 d8) (FP.i2d i1))), (.double d8)])) rfl rfl (hb hby d4_30)
  obtain ⟨fs, hr, hrun, hended, hW, hsame⟩ := X5.leave (v := some (.double (FP.dadd d8 (FP.ddiv (FP.dmul (FP.dsub d9 d8) (FP.i2d i1)) (FP.i2d i9))))) (fun h => by rw [Bd.returns] at h; cases h)
  refine ⟨_, _, pre0 _ ?_, hrun, hended, _, _, rfl, ?_, ⟨_, rfl⟩, hW, hsame.mono (Nat.le_of_ble_eq_true rfl) (Nat.le_of_ble_eq_true rfl)⟩
  · show Steps p.tables e below (s₁.setTop (mkF m 0 #[.val (.ref a1), .val (.int i1)] [])) _
    refine XS.iloadN X0.here hx rfl (hb hby d4_0) rfl ?_
    show Steps p.tables e below (s₁.setTop (mkF m 1 #[.val (.ref a1), .val (.int i1)] [(.int i1)])) _
    refine XS.aloadN X0.here hx rfl (hb hby d4_1) rfl rfl ?_
    show Steps p.tables e below (s₁.setTop (mkF m 2 #[.val (.ref a1), .val (.int i1)] [(.ref a1), (.int i1)])) _
    refine st1 _ ?_
    show Steps p.tables e below (T1.setTop (mkF m 5 #[.val (.ref a1), .val (.int i1)] [(.int i9), (.int i1)])) _
    refine XS.icmpYes X1.here hx rfl (pc0 := 5) (pc' := 13) rfl (hb hby d4_5) rfl hc (by decide) (by decide) ?_
    show Steps p.tables e below (T1.setTop (mkF m 13 #[.val (.ref a1), .val (.int i1)] [])) _
    refine XS.aloadN X1.here hx rfl (hb hby d4_13) rfl rfl ?_
    show Steps p.tables e below (T1.setTop (mkF m 14 #[.val (.ref a1), .val (.int i1)] [(.ref a1)])) _
    refine st2 _ ?_
    show Steps p.tables e below (T2.setTop (mkF m 17 #[.val (.ref a1), .val (.int i1)] [(.double d8)])) _
    refine XS.aloadN X2.here hx rfl (hb hby d4_17) rfl rfl ?_
    show Steps p.tables e below (T2.setTop (mkF m 18 #[.val (.ref a1), .val (.int i1)] [(.ref a1), (.double d8)])) _
    refine st3 _ ?_
    show Steps p.tables e below (T3.setTop (mkF m 21 #[.val (.ref a1), .val (.int i1)] [(.double d9), (.double d8)])) _
    refine XS.aloadN X3.here hx rfl (hb hby d4_21) rfl rfl ?_
    show Steps p.tables e below (T3.setTop (mkF m 22 #[.val (.ref a1), .val (.int i1)] [(.ref a1), (.double d9), (.double d8)])) _
    refine st4 _ ?_
    show Steps p.tables e below (T4.setTop (mkF m 25 #[.val (.ref a1), .val (.int i1)] [(.double d8), (.double d9), (.double d8)])) _
    refine XS.dsubS X4.here hx rfl (hb hby d4_25) rfl nn25 rfl ?_
    show Steps p.tables e below (T4.setTop (mkF m 26 #[.val (.ref a1), .val (.int i1)] [(.double (FP.dsub d9 d8)), (.double d8)])) _
    refine XS.iloadN X4.here hx rfl (hb hby d4_26) rfl ?_
    show Steps p.tables e below (T4.setTop (mkF m 27 #[.val (.ref a1), .val (.int i1)] [(.int i1), (.double (FP.dsub d9 d8)), (.double d8)])) _
    refine XS.i2dS X4.here hx rfl (hb hby d4_27) rfl rfl ?_
    show Steps p.tables e below (T4.setTop (mkF m 28 #[.val (.ref a1), .val (.int i1)] [(.double (FP.i2d i1)), (.double (FP.dsub d9 d8)), (.double d8)])) _
    refine XS.dmulS X4.here hx rfl (hb hby d4_28) rfl nn28 rfl ?_
    show Steps p.tables e below (T4.setTop (mkF m 29 #[.val (.ref a1), .val (.int i1)] [(.double (FP.dmul (FP.dsub d9 d8) (FP.i2d i1))), (.double d8)])) _
    refine XS.aloadN X4.here hx rfl (hb hby d4_29) rfl rfl ?_
    show Steps p.tables e below (T4.setTop (mkF m 30 #[.val (.ref a1), .val (.int i1)] [(.ref a1), (.double (FP.dmul (FP.dsub d9 d8) (FP.i2d i1))), (.double d8)])) _
    refine st5 _ ?_
    show Steps p.tables e below (T5.setTop (mkF m 33 #[.val (.ref a1), .val (.int i1)] [(.int i9), (.double (FP.dmul (FP.dsub d9 d8) (FP.i2d i1))), (.double d8)])) _
    refine XS.i2dS X5.here hx rfl (hb hby d4_33) rfl rfl ?_
    show Steps p.tables e below (T5.setTop (mkF m 34 #[.val (.ref a1), .val (.int i1)] [(.double (FP.i2d i9)), (.double (FP.dmul (FP.dsub d9 d8) (FP.i2d i1))), (.double d8)])) _
    refine XS.ddivS X5.here hx rfl (hb hby d4_34) rfl nn34 rfl ?_
    show Steps p.tables e below (T5.setTop (mkF m 35 #[.val (.ref a1), .val (.int i1)] [(.double (FP.ddiv (FP.dmul (FP.dsub d9 d8) (FP.i2d i1)) (FP.i2d i9))), (.double d8)])) _
    refine XS.daddS X5.here hx rfl (hb hby d4_35) rfl nn35 rfl ?_
    show Steps p.tables e below (T5.setTop (mkF m 36 #[.val (.ref a1), .val (.int i1)] [(.double (FP.dadd d8 (FP.ddiv (FP.dmul (FP.dsub d9 d8) (FP.i2d i1)) (FP.i2d i9))))])) _
    exact retOut X5 hx (t := .double) Bd.returns rfl (Or.inr (Or.inr (Or.inl ⟨rfl, rfl, _, rfl⟩))) (hb hby d4_36) hr
  · show Q_b2 Z a1 i1 d8 d9 i9 h0 n0 _ T5.heap _
    exact ⟨rfl, N0, e5⟩
def Q_bd (Z : State) (a1 : Addr) (i1 : Int32) (d8 : UInt64) (d9 : UInt64) (i9 : Int32) (h0 : Heap) (n0 : Nat) (v : Option Value) (h : Heap) (L : List Loc) : Prop := v = some (.double (bd_res i1 d8 d9 i9)) ∧ Fr n0 L ∧ h = h0
set_option maxRecDepth 65536 in
set_option maxHeartbeats 40000000 in
theorem rm_bd (l : Launch) (Z : State) (a0 : Array Value) (hw : ∀ d ∈ tables_1, d.before a0 Z = true) (ws : List Jvm.Cond) (a1 : Addr) (i1 : Int32) (d8 : UInt64) (d9 : UInt64) (i9 : Int32) (h0 : Heap) (n0 : Nat) (Z0 : n0 ≤ h0.size) (k0_ : Fld Z h0 a1 "com/example/trailhive/trailhive/DaySlices" "opens" "D" (.double d8)) (k1_ : Fld Z h0 a1 "com/example/trailhive/trailhive/DaySlices" "closes" "D" (.double d9)) (k2_ : Fld Z h0 a1 "com/example/trailhive/trailhive/DaySlices" "count" "I" (.int i9)) (nn25 : Jvm.Free.Fl.NoNaN64 (FP.dsub d9 d8)) (nn28 : Jvm.Free.Fl.NoNaN64 (FP.dmul (FP.dsub d9 d8) (FP.i2d i1))) (nn34 : Jvm.Free.Fl.NoNaN64 (FP.ddiv (FP.dmul (FP.dsub d9 d8) (FP.i2d i1)) (FP.i2d i9))) (nn35 : Jvm.Free.Fl.NoNaN64 (FP.dadd d8 (FP.ddiv (FP.dmul (FP.dsub d9 d8) (FP.i2d i1)) (FP.i2d i9)))) :
    MetFree l (⟨"com/example/trailhive/trailhive/DaySlices", "boundary", "(I)D"⟩ : MethodName) (head1 (Jvm.Cond.code (⟨"com/example/trailhive/trailhive/DaySlices", "boundary", "(I)D"⟩ : MethodName) prog_17_method_4_code 2 (some .double) :: ws) ({ frames := 0, cells := 0, slots := 0, locals := 0 } : Room)) (fun a U => a = #[(.ref a1), (.int i1)] ∧ Z.Warmed39 U.vm ∧ U.heap = h0) (fun _ _ _ _ _ => True) (fun _ U o U' => ∃ v L, o = .returned v ∧ Q_bd Z a1 i1 d8 d9 i9 h0 n0 v U'.heap L ∧ FrameEnd U o U' L ({ frames := 0, cells := 0, slots := 0, locals := 0 } : Room).cells ({ frames := 0, cells := 0, slots := 0, locals := 0 } : Room).slots) := by
  by_cases cc : (if_icmp.holds .ne i1 i9) = true
  · have q : bd_res i1 d8 d9 i9 = (FP.dadd d8 (FP.ddiv (FP.dmul (FP.dsub d9 d8) (FP.i2d i1)) (FP.i2d i9))) := if_pos cc
    unfold Q_bd; rw [q]
    exact rm_b2 l Z a0 hw ws a1 i1 d8 d9 i9 h0 n0 Z0 k0_ k1_ k2_ cc nn25 nn28 nn34 nn35
  · have q : bd_res i1 d8 d9 i9 = d9 := if_neg cc
    unfold Q_bd; rw [q]
    exact rm_b1 l Z a0 hw ws a1 i1 d8 d9 i9 h0 n0 Z0 k0_ k1_ k2_ (Bool.eq_false_iff.mpr cc) 
theorem ef_lw (m : MethodId) (p1 : Int32) (p2 : Int32) (p3 : Int32) (p4 : Int32) (p5 : Int64) (p6 : Int64) : entryFrame m #[(.int p1), (.int p2), (.int p3), (.int p4), (.long p5), (.long p6)] maxLocals = (mkF m 0 #[.val (.int p1), .val (.int p2), .val (.int p3), .val (.int p4), .val (.long p5), .second, .val (.long p6), .second, .unset, .unset, .unset, .unset, .unset, .unset, .unset, .unset, .unset, .unset, .unset, .unset, .unset, .unset, .unset, .unset, .unset, .unset, .unset, .unset] []) := by first | (simp [entryFrame, mkF, argsToLocals, Value.category, maxLocals]; done) | rfl
def Q_lw (Z : State) (p1 : Int32) (p2 : Int32) (p3 : Int32) (p4 : Int32) (p5 : Int64) (p6 : Int64)  (h0 : Heap) (n0 : Nat) (v : Option Value) (h : Heap) (L : List Loc) : Prop := v = some (.int 1) ∧ Fr n0 L
set_option maxRecDepth 65536 in
set_option maxHeartbeats 40000000 in
theorem rm_lw (l : Launch) (Z : State) (a0 : Array Value) (hw : ∀ d ∈ tables_1, d.before a0 Z = true) (ws : List Jvm.Cond) (p1 : Int32) (p2 : Int32) (p3 : Int32) (p4 : Int32) (p5 : Int64) (p6 : Int64)  (h0 : Heap) (n0 : Nat) (Z0 : n0 ≤ h0.size)    :
    MetFree l x (head1 (Jvm.Cond.code x code maxLocals ret :: ws) room_1) (fun a U => a = #[(.int p1), (.int p2), (.int p3), (.int p4), (.long p5), (.long p6)] ∧ Z.Warmed39 U.vm ∧ U.heap = h0) (fun _ _ _ _ _ => True) (fun _ U o U' => ∃ v L, o = .returned v ∧ Q_lw Z p1 p2 p3 p4 p5 p6  h0 n0 v U'.heap L ∧ FrameEnd U o U' L 2 6) := by
  refine MetFree.of_bodySF (plainFor_of_name pn_2) hisR ?_
  intro p e s m args below meth c s₁ Bd hml0 hP hK
  obtain ⟨rfl, hZ, hh⟩ := hP
  have hx := Bd.exec
  have hby := Bd.bytes
  have hml : c.maxLocals = 28 := hml0
  have hown : s.vm.findClass "com/example/trailhive/trailhive/DaySlicesBoundaryPinLaw" = some m.cls := findClass_of_methodNamed Bd.named
  have hnm := (name_of_methodNamed Bd.named Bd.method).1
  have X0 : Stand p l e room_1 s m #[(.int p1), (.int p2), (.int p3), (.int p4), (.long p5), (.long p6)] below meth c s₁ [] 0 0 := Stand.of_body Bd
  have e0 : s₁.heap = h0 := by rw [← hh, Bd.state]; rfl
  have N0 := Fr.nil n0
  have pre0 : ∀ t, Steps p.tables e below (s₁.setTop (mkF m 0 #[.val (.int p1), .val (.int p2), .val (.int p3), .val (.int p4), .val (.long p5), .second, .val (.long p6), .second, .unset, .unset, .unset, .unset, .unset, .unset, .unset, .unset, .unset, .unset, .unset, .unset, .unset, .unset, .unset, .unset, .unset, .unset, .unset, .unset] [])) t → Steps p.tables e below (s₁.setTop (entryFrame m #[(.int p1), (.int p2), (.int p3), (.int p4), (.long p5), (.long p6)] maxLocals)) t := fun t k => castTop (ef_lw m p1 p2 p3 p4 p5 p6) k
  obtain ⟨T1, h1, X1, e1, E1, A1, D1, -, st1⟩ := newO X0 hx hZ hown (hw _ (List.mem_of_getElem? (i := 2) rfl)) (hw _ (List.mem_of_getElem? (i := 3) rfl)) (hw _ (List.mem_of_getElem? (i := 4) rfl)) e0 (g := (mkF m 19 #[.val (.int p1), .val (.int p2), .val (.int p3), .val (.int p4), .val (.long p5), .second, .val (.long p6), .second, .val (.int (lw_n p1 p2 p3 p4 p5 p6)), .val (.int (lw_k p1 p2 p3 p4 p5 p6)), .unset, .unset, .unset, .unset, .unset, .unset, .unset, .unset, .unset, .unset, .unset, .unset, .unset, .unset, .unset, .unset, .unset, .unset] [])) rfl (hb hby at_19) (by decide) (by decide)
  obtain ⟨ad1, g1⟩ : ∃ z, z = (h0).size := ⟨_, rfl⟩
  rw [← g1] at A1 D1 st1
  have F1_0 : Fld Z h1 ad1 "com/example/trailhive/trailhive/DaySlices" "opens" "D" (.double (0 : UInt64)) := (D1 (Or.inr (hw _ (List.mem_of_getElem? (i := 17) rfl))) (ty := .double) (by decide))
  have F1_1 : Fld Z h1 ad1 "com/example/trailhive/trailhive/DaySlices" "closes" "D" (.double (0 : UInt64)) := (D1 (Or.inr (hw _ (List.mem_of_getElem? (i := 19) rfl))) (ty := .double) (by decide))
  have F1_2 : Fld Z h1 ad1 "com/example/trailhive/trailhive/DaySlices" "count" "I" (.int (0 : Int32)) := (D1 (Or.inr (hw _ (List.mem_of_getElem? (i := 21) rfl))) (ty := .int) (by decide))
  have Z1 : n0 ≤ h1.size := Nat.le_trans Z0 E1.1
  have gn1 : n0 ≤ ad1 := Nat.le_trans Z0 (Nat.le_of_eq g1.symm)
  obtain ⟨_, _, ⟨T2, L2, k2, n2⟩, -, X2, ⟨Lc2, hQ2, l2, y2, z2⟩, st2⟩ := X1.specialBack hx (y := (⟨"com/example/trailhive/trailhive/DaySlices", "<init>", "(DDI)V"⟩ : MethodName)) rfl hown (mvT hZ (hw _ (List.mem_of_getElem? (i := 5) rfl))) (mvT hZ (hw _ (List.mem_of_getElem? (i := 6) rfl))) (mvT hZ (hw _ (List.mem_of_getElem? (i := 7) rfl))) (by decide) (backOf (W := 1) (rm_ini l Z a0 hw [] ad1 (FP.i2d p1) (FP.i2d p2) (lw_n p1 p2 p3 p4 p5 p6)  (h1) n0 Z1 F1_0 F1_1 F1_2 A1 gn1 (own_ge p1 p2 p3 p4 p5 p6)) hZ (hw _ (List.mem_of_getElem? (i := 7) rfl)) (hw _ (List.mem_of_getElem? (i := 4) rfl)) (by decide) (by decide)) (g := (mkF m 29 #[.val (.int p1), .val (.int p2), .val (.int p3), .val (.int p4), .val (.long p5), .second, .val (.long p6), .second, .val (.int (lw_n p1 p2 p3 p4 p5 p6)), .val (.int (lw_k p1 p2 p3 p4 p5 p6)), .unset, .unset, .unset, .unset, .unset, .unset, .unset, .unset, .unset, .unset, .unset, .unset, .unset, .unset, .unset, .unset, .unset, .unset] [(.int (lw_n p1 p2 p3 p4 p5 p6)), (.double (FP.i2d p2)), (.double (FP.i2d p1)), (.ref ad1), (.ref ad1)])) rfl (by rw [hml]; rfl) (Steps.refl _) (a := ad1) (argsL := [(.double (FP.i2d p1)), (.double (FP.i2d p2)), (.int (lw_n p1 p2 p3 p4 p5 p6))]) (rest := [(.ref ad1)]) (lenOf pd_1 rfl) rfl (by show 2 * 0 + _ ≤ _; exact Nat.le_of_eq rfl) (hb hby at_29) (fun _ _ => ⟨rfl, e1, (by decide : 1 + 0 ≤ _), (by decide : 3 + 0 ≤ _)⟩)
  dsimp only [Pt.U, Pt.locs, Pt.cells, Pt.slots] at X2 l2 y2 z2 st2 hQ2
  subst l2 y2 z2
  obtain ⟨rfl, N2, K2, p2_0, p2_1, p2_2, p2_3⟩ := hQ2
  have Nn2 := Fr.app N0 N2
  have Z2 : n0 ≤ T2.heap.size := Nat.le_trans Z1 K2.1
  obtain ⟨T3, h3, X3, e3, E3, A3, D3, -, st3⟩ := newO X2 hx hZ hown (hw _ (List.mem_of_getElem? (i := 2) rfl)) (hw _ (List.mem_of_getElem? (i := 3) rfl)) (hw _ (List.mem_of_getElem? (i := 4) rfl)) rfl (g := (mkF m 34 #[.val (.int p1), .val (.int p2), .val (.int p3), .val (.int p4), .val (.long p5), .second, .val (.long p6), .second, .val (.int (lw_n p1 p2 p3 p4 p5 p6)), .val (.int (lw_k p1 p2 p3 p4 p5 p6)), .val (.ref ad1), .unset, .unset, .unset, .unset, .unset, .unset, .unset, .unset, .unset, .unset, .unset, .unset, .unset, .unset, .unset, .unset, .unset] [])) rfl (hb hby at_34) (by decide) (by decide)
  obtain ⟨ad3, g3⟩ : ∃ z, z = (T2.heap).size := ⟨_, rfl⟩
  rw [← g3] at A3 D3 st3
  have ne_ad1_ad3 : ad1 ≠ ad3 := Nat.ne_of_lt (Nat.lt_of_lt_of_le (p2_0.lt) (Nat.le_of_eq g3.symm))
  have q4 : Exa Z h3 ad1 "com/example/trailhive/trailhive/DaySlices" := (p2_0.ext E3)
  have q5 : Fld Z h3 ad1 "com/example/trailhive/trailhive/DaySlices" "opens" "D" (.double (FP.i2d p1)) := (p2_1.ext E3)
  have q6 : Fld Z h3 ad1 "com/example/trailhive/trailhive/DaySlices" "closes" "D" (.double (FP.i2d p2)) := (p2_2.ext E3)
  have q7 : Fld Z h3 ad1 "com/example/trailhive/trailhive/DaySlices" "count" "I" (.int (lw_n p1 p2 p3 p4 p5 p6)) := (p2_3.ext E3)
  have F3_0 : Fld Z h3 ad3 "com/example/trailhive/trailhive/DaySlices" "opens" "D" (.double (0 : UInt64)) := (D3 (Or.inr (hw _ (List.mem_of_getElem? (i := 17) rfl))) (ty := .double) (by decide))
  have F3_1 : Fld Z h3 ad3 "com/example/trailhive/trailhive/DaySlices" "closes" "D" (.double (0 : UInt64)) := (D3 (Or.inr (hw _ (List.mem_of_getElem? (i := 19) rfl))) (ty := .double) (by decide))
  have F3_2 : Fld Z h3 ad3 "com/example/trailhive/trailhive/DaySlices" "count" "I" (.int (0 : Int32)) := (D3 (Or.inr (hw _ (List.mem_of_getElem? (i := 21) rfl))) (ty := .int) (by decide))
  have Z3 : n0 ≤ h3.size := Nat.le_trans Z2 E3.1
  have gn3 : n0 ≤ ad3 := Nat.le_trans Z2 (Nat.le_of_eq g3.symm)
  obtain ⟨_, _, ⟨T8, L8, k8, n8⟩, -, X8, ⟨Lc8, hQ8, l8, y8, z8⟩, st8⟩ := X3.specialBack hx (y := (⟨"com/example/trailhive/trailhive/DaySlices", "<init>", "(DDI)V"⟩ : MethodName)) rfl hown (mvT hZ (hw _ (List.mem_of_getElem? (i := 5) rfl))) (mvT hZ (hw _ (List.mem_of_getElem? (i := 6) rfl))) (mvT hZ (hw _ (List.mem_of_getElem? (i := 7) rfl))) (by decide) (backOf (W := 1) (rm_ini l Z a0 hw [] ad3 (FP.l2d p5) (FP.l2d p6) (lw_n p1 p2 p3 p4 p5 p6)  (h3) n0 Z3 F3_0 F3_1 F3_2 A3 gn3 (own_ge p1 p2 p3 p4 p5 p6)) hZ (hw _ (List.mem_of_getElem? (i := 7) rfl)) (hw _ (List.mem_of_getElem? (i := 4) rfl)) (by decide) (by decide)) (g := (mkF m 46 #[.val (.int p1), .val (.int p2), .val (.int p3), .val (.int p4), .val (.long p5), .second, .val (.long p6), .second, .val (.int (lw_n p1 p2 p3 p4 p5 p6)), .val (.int (lw_k p1 p2 p3 p4 p5 p6)), .val (.ref ad1), .unset, .unset, .unset, .unset, .unset, .unset, .unset, .unset, .unset, .unset, .unset, .unset, .unset, .unset, .unset, .unset, .unset] [(.int (lw_n p1 p2 p3 p4 p5 p6)), (.double (FP.l2d p6)), (.double (FP.l2d p5)), (.ref ad3), (.ref ad3)])) rfl (by rw [hml]; rfl) (Steps.refl _) (a := ad3) (argsL := [(.double (FP.l2d p5)), (.double (FP.l2d p6)), (.int (lw_n p1 p2 p3 p4 p5 p6))]) (rest := [(.ref ad3)]) (lenOf pd_1 rfl) rfl (by show 2 * 0 + _ ≤ _; exact Nat.le_of_eq rfl) (hb hby at_46) (fun _ _ => ⟨rfl, e3, (by decide : 2 + 0 ≤ _), (by decide : 6 + 0 ≤ _)⟩)
  dsimp only [Pt.U, Pt.locs, Pt.cells, Pt.slots] at X8 l8 y8 z8 st8 hQ8
  subst l8 y8 z8
  obtain ⟨rfl, N8, K8, p8_0, p8_1, p8_2, p8_3⟩ := hQ8
  have Nn8 := Fr.app Nn2 N8
  have q9 : Exa Z T8.heap ad1 "com/example/trailhive/trailhive/DaySlices" := (q4.keep K8)
  have q10 : Fld Z T8.heap ad1 "com/example/trailhive/trailhive/DaySlices" "opens" "D" (.double (FP.i2d p1)) := (q5.keep K8 (fun q => ne_ad1_ad3 (List.mem_singleton.mp q)))
  have q11 : Fld Z T8.heap ad1 "com/example/trailhive/trailhive/DaySlices" "closes" "D" (.double (FP.i2d p2)) := (q6.keep K8 (fun q => ne_ad1_ad3 (List.mem_singleton.mp q)))
  have q12 : Fld Z T8.heap ad1 "com/example/trailhive/trailhive/DaySlices" "count" "I" (.int (lw_n p1 p2 p3 p4 p5 p6)) := (q7.keep K8 (fun q => ne_ad1_ad3 (List.mem_singleton.mp q)))
  have Z8 : n0 ≤ T8.heap.size := Nat.le_trans Z3 K8.1
  obtain ⟨cq18, kq18, qa18, qb18, qc18⟩ := isOf hZ rfl q9
  obtain ⟨_, _, ⟨T18, L18, k18, n18⟩, -, X18, ⟨Lc18, hQ18, l18, y18, z18⟩, st18⟩ := X8.virtualBack hx (y := (⟨"com/example/trailhive/trailhive/DaySlices", "boundary", "(I)D"⟩ : MethodName)) (z := (⟨"com/example/trailhive/trailhive/DaySlices", "boundary", "(I)D"⟩ : MethodName)) hown (mvT hZ (hw _ (List.mem_of_getElem? (i := 22) rfl))) (mvT hZ (hw _ (List.mem_of_getElem? (i := 23) rfl))) (notFace_of_selects (args := #[]) (mvT hZ (hw _ (List.mem_of_getElem? (i := 25) rfl)))) (mvT hZ (hw _ (List.mem_of_getElem? (i := 25) rfl))) (mvT hZ (hw _ (List.mem_of_getElem? (i := 24) rfl))) (by decide) (backOf (W := 0) (rm_bd l Z a0 hw [] ad1 (lw_k p1 p2 p3 p4 p5 p6) (FP.i2d p1) (FP.i2d p2) (lw_n p1 p2 p3 p4 p5 p6) (T8.heap) n0 Z8 q10 q11 q12 (own_s p1 p2 p3 p4 p5 p6).1 (own_s p1 p2 p3 p4 p5 p6).2.1 (own_s p1 p2 p3 p4 p5 p6).2.2.1 (own_s p1 p2 p3 p4 p5 p6).2.2.2) hZ (hw _ (List.mem_of_getElem? (i := 26) rfl)) (hw _ (List.mem_of_getElem? (i := 4) rfl)) (by decide) (by decide)) qa18 qc18 (g := (mkF m 131 #[.val (.int p1), .val (.int p2), .val (.int p3), .val (.int p4), .val (.long p5), .second, .val (.long p6), .second, .val (.int (lw_n p1 p2 p3 p4 p5 p6)), .val (.int (lw_k p1 p2 p3 p4 p5 p6)), .val (.ref ad1), .val (.ref ad3), .val (.long (lw_d p1 p2 p3 p4 p5 p6)), .second, .val (.long (lw_num p1 p2 p3 p4 p5 p6)), .second, .val (.long (lw_qq p1 p2 p3 p4 p5 p6)), .second, .val (.long (lw_r p1 p2 p3 p4 p5 p6)), .second, .val (.long (lw_lo p1 p2 p3 p4 p5 p6)), .second, .val (.long (lw_hi p1 p2 p3 p4 p5 p6)), .second, .unset, .unset, .unset, .unset] [(.int (lw_k p1 p2 p3 p4 p5 p6)), (.ref ad1)])) rfl (by rw [hml]; rfl) (Steps.refl _) (argsL := [(.int (lw_k p1 p2 p3 p4 p5 p6))]) (rest := []) (lenOf pd_2 rfl) rfl (by show 2 * 0 + _ ≤ _; exact Nat.le_of_eq rfl) (hb hby at_131) (fun _ _ => ⟨rfl, rfl, (by decide : 2 + 0 ≤ _), (by decide : 6 + 0 ≤ _)⟩)
  dsimp only [Pt.U, Pt.locs, Pt.cells, Pt.slots] at X18 l18 y18 z18 st18 hQ18
  subst l18 y18 z18
  obtain ⟨rfl, N18, e18⟩ := hQ18
  have Nn18 := Fr.app Nn8 N18
  obtain ⟨cq19, kq19, qa19, qb19, qc19⟩ := isOf hZ e18 p8_0
  obtain ⟨_, _, ⟨T19, L19, k19, n19⟩, -, X19, ⟨Lc19, hQ19, l19, y19, z19⟩, st19⟩ := X18.virtualBack hx (y := (⟨"com/example/trailhive/trailhive/DaySlices", "boundary", "(I)D"⟩ : MethodName)) (z := (⟨"com/example/trailhive/trailhive/DaySlices", "boundary", "(I)D"⟩ : MethodName)) hown (mvT hZ (hw _ (List.mem_of_getElem? (i := 22) rfl))) (mvT hZ (hw _ (List.mem_of_getElem? (i := 23) rfl))) (notFace_of_selects (args := #[]) (mvT hZ (hw _ (List.mem_of_getElem? (i := 25) rfl)))) (mvT hZ (hw _ (List.mem_of_getElem? (i := 25) rfl))) (mvT hZ (hw _ (List.mem_of_getElem? (i := 24) rfl))) (by decide) (backOf (W := 0) (rm_b1 l Z a0 hw [] ad3 (lw_n p1 p2 p3 p4 p5 p6) (FP.l2d p5) (FP.l2d p6) (lw_n p1 p2 p3 p4 p5 p6) (T8.heap) n0 Z8 p8_1 p8_2 p8_3 (own_f_of (own_c_ne _ _) (fun h => h rfl))) hZ (hw _ (List.mem_of_getElem? (i := 26) rfl)) (hw _ (List.mem_of_getElem? (i := 4) rfl)) (by decide) (by decide)) qa19 qc19 (g := (mkF m 165 #[.val (.int p1), .val (.int p2), .val (.int p3), .val (.int p4), .val (.long p5), .second, .val (.long p6), .second, .val (.int (lw_n p1 p2 p3 p4 p5 p6)), .val (.int (lw_k p1 p2 p3 p4 p5 p6)), .val (.ref ad1), .val (.ref ad3), .val (.long (lw_d p1 p2 p3 p4 p5 p6)), .second, .val (.long (lw_num p1 p2 p3 p4 p5 p6)), .second, .val (.long (lw_qq p1 p2 p3 p4 p5 p6)), .second, .val (.long (lw_r p1 p2 p3 p4 p5 p6)), .second, .val (.long (lw_lo p1 p2 p3 p4 p5 p6)), .second, .val (.long (lw_hi p1 p2 p3 p4 p5 p6)), .second, .val (.double (lw_got p1 p2 p3 p4 p5 p6)), .second, .val (.int (1 : Int32)), .unset] [(.int (lw_n p1 p2 p3 p4 p5 p6)), (.ref ad3)])) rfl (by rw [hml]; rfl) (Steps.refl _) (argsL := [(.int (lw_n p1 p2 p3 p4 p5 p6))]) (rest := []) (lenOf pd_2 rfl) rfl (by show 2 * 0 + _ ≤ _; exact Nat.le_of_eq rfl) (hb hby at_165) (fun _ _ => ⟨rfl, e18, (by decide : 2 + 0 ≤ _), (by decide : 6 + 0 ≤ _)⟩)
  dsimp only [Pt.U, Pt.locs, Pt.cells, Pt.slots] at X19 l19 y19 z19 st19 hQ19
  subst l19 y19 z19
  obtain ⟨rfl, N19, e19⟩ := hQ19
  have Nn19 := Fr.app Nn18 N19
  obtain ⟨cq20, kq20, qa20, qb20, qc20⟩ := isOf hZ e19 p8_0
  obtain ⟨_, _, ⟨T20, L20, k20, n20⟩, -, X20, ⟨Lc20, hQ20, l20, y20, z20⟩, st20⟩ := X19.virtualBack hx (y := (⟨"com/example/trailhive/trailhive/DaySlices", "boundary", "(I)D"⟩ : MethodName)) (z := (⟨"com/example/trailhive/trailhive/DaySlices", "boundary", "(I)D"⟩ : MethodName)) hown (mvT hZ (hw _ (List.mem_of_getElem? (i := 22) rfl))) (mvT hZ (hw _ (List.mem_of_getElem? (i := 23) rfl))) (notFace_of_selects (args := #[]) (mvT hZ (hw _ (List.mem_of_getElem? (i := 25) rfl)))) (mvT hZ (hw _ (List.mem_of_getElem? (i := 25) rfl))) (mvT hZ (hw _ (List.mem_of_getElem? (i := 24) rfl))) (by decide) (backOf (W := 0) (rm_b2 l Z a0 hw [] ad3 (0 : Int32) (FP.l2d p5) (FP.l2d p6) (lw_n p1 p2 p3 p4 p5 p6) (T8.heap) n0 Z8 p8_1 p8_2 p8_3 (own_c0 p1 p2 p3 p4 p5 p6) (own_w p1 p2 p3 p4 p5 p6).1.nn (own_w p1 p2 p3 p4 p5 p6).2.1.nn (own_w p1 p2 p3 p4 p5 p6).2.2.1.nn (own_w p1 p2 p3 p4 p5 p6).2.2.2.nn) hZ (hw _ (List.mem_of_getElem? (i := 26) rfl)) (hw _ (List.mem_of_getElem? (i := 4) rfl)) (by decide) (by decide)) qa20 qc20 (g := (mkF m 178 #[.val (.int p1), .val (.int p2), .val (.int p3), .val (.int p4), .val (.long p5), .second, .val (.long p6), .second, .val (.int (lw_n p1 p2 p3 p4 p5 p6)), .val (.int (lw_k p1 p2 p3 p4 p5 p6)), .val (.ref ad1), .val (.ref ad3), .val (.long (lw_d p1 p2 p3 p4 p5 p6)), .second, .val (.long (lw_num p1 p2 p3 p4 p5 p6)), .second, .val (.long (lw_qq p1 p2 p3 p4 p5 p6)), .second, .val (.long (lw_r p1 p2 p3 p4 p5 p6)), .second, .val (.long (lw_lo p1 p2 p3 p4 p5 p6)), .second, .val (.long (lw_hi p1 p2 p3 p4 p5 p6)), .second, .val (.double (lw_got p1 p2 p3 p4 p5 p6)), .second, .val (.int (1 : Int32)), .unset] [(.int (0 : Int32)), (.ref ad3)])) rfl (by rw [hml]; rfl) (Steps.refl _) (argsL := [(.int (0 : Int32))]) (rest := []) (lenOf pd_2 rfl) rfl (by show 2 * 0 + _ ≤ _; exact Nat.le_of_eq rfl) (hb hby at_178) (fun _ _ => ⟨rfl, e19, (by decide : 2 + 0 ≤ _), (by decide : 6 + 0 ≤ _)⟩)
  dsimp only [Pt.U, Pt.locs, Pt.cells, Pt.slots] at X20 l20 y20 z20 st20 hQ20
  subst l20 y20 z20
  obtain ⟨rfl, N20, e20⟩ := hQ20
  have Nn20 := Fr.app Nn19 N20
  obtain ⟨fs, hr, hrun, hended, hW, hsame⟩ := X20.leave (v := some (.int (1 : Int32))) (fun h => by rw [Bd.returns] at h; cases h)
  refine ⟨_, _, pre0 _ ?_, hrun, hended, _, _, rfl, ?_, ⟨_, rfl⟩, hW, hsame.mono (Nat.le_of_ble_eq_true rfl) (Nat.le_of_ble_eq_true rfl)⟩
  · show Steps p.tables e below (s₁.setTop (mkF m 0 #[.val (.int p1), .val (.int p2), .val (.int p3), .val (.int p4), .val (.long p5), .second, .val (.long p6), .second, .unset, .unset, .unset, .unset, .unset, .unset, .unset, .unset, .unset, .unset, .unset, .unset, .unset, .unset, .unset, .unset, .unset, .unset, .unset, .unset] [])) _
    refine XS.iconst X0.here hx rfl (hb hby at_0) ?_
    show Steps p.tables e below (s₁.setTop (mkF m 1 #[.val (.int p1), .val (.int p2), .val (.int p3), .val (.int p4), .val (.long p5), .second, .val (.long p6), .second, .unset, .unset, .unset, .unset, .unset, .unset, .unset, .unset, .unset, .unset, .unset, .unset, .unset, .unset, .unset, .unset, .unset, .unset, .unset, .unset] [(.int (1 : Int32))])) _
    refine XS.iloadN X0.here hx rfl (hb hby at_1) rfl ?_
    show Steps p.tables e below (s₁.setTop (mkF m 2 #[.val (.int p1), .val (.int p2), .val (.int p3), .val (.int p4), .val (.long p5), .second, .val (.long p6), .second, .unset, .unset, .unset, .unset, .unset, .unset, .unset, .unset, .unset, .unset, .unset, .unset, .unset, .unset, .unset, .unset, .unset, .unset, .unset, .unset] [(.int p3), (.int (1 : Int32))])) _
    refine X0.ldcI hx hown (mvT hZ (hw _ (List.mem_of_getElem? (i := 0) rfl))) (g := (mkF m 2 #[.val (.int p1), .val (.int p2), .val (.int p3), .val (.int p4), .val (.long p5), .second, .val (.long p6), .second, .unset, .unset, .unset, .unset, .unset, .unset, .unset, .unset, .unset, .unset, .unset, .unset, .unset, .unset, .unset, .unset, .unset, .unset, .unset, .unset] [(.int p3), (.int (1 : Int32))])) rfl (hb hby at_2) ?_
    show Steps p.tables e below (s₁.setTop (mkF m 4 #[.val (.int p1), .val (.int p2), .val (.int p3), .val (.int p4), .val (.long p5), .second, .val (.long p6), .second, .unset, .unset, .unset, .unset, .unset, .unset, .unset, .unset, .unset, .unset, .unset, .unset, .unset, .unset, .unset, .unset, .unset, .unset, .unset, .unset] [(.int (1048575 : Int32)), (.int p3), (.int (1 : Int32))])) _
    refine XS.iand X0.here hx rfl (hb hby at_4) rfl ?_
    show Steps p.tables e below (s₁.setTop (mkF m 5 #[.val (.int p1), .val (.int p2), .val (.int p3), .val (.int p4), .val (.long p5), .second, .val (.long p6), .second, .unset, .unset, .unset, .unset, .unset, .unset, .unset, .unset, .unset, .unset, .unset, .unset, .unset, .unset, .unset, .unset, .unset, .unset, .unset, .unset] [(.int (p3 &&& (1048575 : Int32))), (.int (1 : Int32))])) _
    refine XS.iadd X0.here hx rfl (hb hby at_5) rfl ?_
    show Steps p.tables e below (s₁.setTop (mkF m 6 #[.val (.int p1), .val (.int p2), .val (.int p3), .val (.int p4), .val (.long p5), .second, .val (.long p6), .second, .unset, .unset, .unset, .unset, .unset, .unset, .unset, .unset, .unset, .unset, .unset, .unset, .unset, .unset, .unset, .unset, .unset, .unset, .unset, .unset] [(.int ((1 : Int32) + (p3 &&& (1048575 : Int32))))])) _
    refine XS.istore X0.here hx rfl (hb hby at_6) rfl (l' := #[.val (.int p1), .val (.int p2), .val (.int p3), .val (.int p4), .val (.long p5), .second, .val (.long p6), .second, .val (.int (lw_n p1 p2 p3 p4 p5 p6)), .unset, .unset, .unset, .unset, .unset, .unset, .unset, .unset, .unset, .unset, .unset, .unset, .unset, .unset, .unset, .unset, .unset, .unset, .unset]) rfl ?_
    show Steps p.tables e below (s₁.setTop (mkF m 8 #[.val (.int p1), .val (.int p2), .val (.int p3), .val (.int p4), .val (.long p5), .second, .val (.long p6), .second, .val (.int (lw_n p1 p2 p3 p4 p5 p6)), .unset, .unset, .unset, .unset, .unset, .unset, .unset, .unset, .unset, .unset, .unset, .unset, .unset, .unset, .unset, .unset, .unset, .unset, .unset] [])) _
    refine XS.iloadN X0.here hx rfl (hb hby at_8) rfl ?_
    show Steps p.tables e below (s₁.setTop (mkF m 9 #[.val (.int p1), .val (.int p2), .val (.int p3), .val (.int p4), .val (.long p5), .second, .val (.long p6), .second, .val (.int (lw_n p1 p2 p3 p4 p5 p6)), .unset, .unset, .unset, .unset, .unset, .unset, .unset, .unset, .unset, .unset, .unset, .unset, .unset, .unset, .unset, .unset, .unset, .unset, .unset] [(.int p4)])) _
    refine X0.ldcI hx hown (mvT hZ (hw _ (List.mem_of_getElem? (i := 1) rfl))) (g := (mkF m 9 #[.val (.int p1), .val (.int p2), .val (.int p3), .val (.int p4), .val (.long p5), .second, .val (.long p6), .second, .val (.int (lw_n p1 p2 p3 p4 p5 p6)), .unset, .unset, .unset, .unset, .unset, .unset, .unset, .unset, .unset, .unset, .unset, .unset, .unset, .unset, .unset, .unset, .unset, .unset, .unset] [(.int p4)])) rfl (hb hby at_9) ?_
    show Steps p.tables e below (s₁.setTop (mkF m 11 #[.val (.int p1), .val (.int p2), .val (.int p3), .val (.int p4), .val (.long p5), .second, .val (.long p6), .second, .val (.int (lw_n p1 p2 p3 p4 p5 p6)), .unset, .unset, .unset, .unset, .unset, .unset, .unset, .unset, .unset, .unset, .unset, .unset, .unset, .unset, .unset, .unset, .unset, .unset, .unset] [(.int (2147483647 : Int32)), (.int p4)])) _
    refine XS.iand X0.here hx rfl (hb hby at_11) rfl ?_
    show Steps p.tables e below (s₁.setTop (mkF m 12 #[.val (.int p1), .val (.int p2), .val (.int p3), .val (.int p4), .val (.long p5), .second, .val (.long p6), .second, .val (.int (lw_n p1 p2 p3 p4 p5 p6)), .unset, .unset, .unset, .unset, .unset, .unset, .unset, .unset, .unset, .unset, .unset, .unset, .unset, .unset, .unset, .unset, .unset, .unset, .unset] [(.int (p4 &&& (2147483647 : Int32)))])) _
    refine XS.iload X0.here hx rfl (hb hby at_12) rfl ?_
    show Steps p.tables e below (s₁.setTop (mkF m 14 #[.val (.int p1), .val (.int p2), .val (.int p3), .val (.int p4), .val (.long p5), .second, .val (.long p6), .second, .val (.int (lw_n p1 p2 p3 p4 p5 p6)), .unset, .unset, .unset, .unset, .unset, .unset, .unset, .unset, .unset, .unset, .unset, .unset, .unset, .unset, .unset, .unset, .unset, .unset, .unset] [(.int (lw_n p1 p2 p3 p4 p5 p6)), (.int (p4 &&& (2147483647 : Int32)))])) _
    refine XS.iconst X0.here hx rfl (hb hby at_14) ?_
    show Steps p.tables e below (s₁.setTop (mkF m 15 #[.val (.int p1), .val (.int p2), .val (.int p3), .val (.int p4), .val (.long p5), .second, .val (.long p6), .second, .val (.int (lw_n p1 p2 p3 p4 p5 p6)), .unset, .unset, .unset, .unset, .unset, .unset, .unset, .unset, .unset, .unset, .unset, .unset, .unset, .unset, .unset, .unset, .unset, .unset, .unset] [(.int (1 : Int32)), (.int (lw_n p1 p2 p3 p4 p5 p6)), (.int (p4 &&& (2147483647 : Int32)))])) _
    refine XS.iadd X0.here hx rfl (hb hby at_15) rfl ?_
    show Steps p.tables e below (s₁.setTop (mkF m 16 #[.val (.int p1), .val (.int p2), .val (.int p3), .val (.int p4), .val (.long p5), .second, .val (.long p6), .second, .val (.int (lw_n p1 p2 p3 p4 p5 p6)), .unset, .unset, .unset, .unset, .unset, .unset, .unset, .unset, .unset, .unset, .unset, .unset, .unset, .unset, .unset, .unset, .unset, .unset, .unset] [(.int ((lw_n p1 p2 p3 p4 p5 p6) + (1 : Int32))), (.int (p4 &&& (2147483647 : Int32)))])) _
    refine XS.irem X0.here hx rfl (hb hby at_16) rfl (own_n1 p1 p2 p3 p4 p5 p6) ?_
    show Steps p.tables e below (s₁.setTop (mkF m 17 #[.val (.int p1), .val (.int p2), .val (.int p3), .val (.int p4), .val (.long p5), .second, .val (.long p6), .second, .val (.int (lw_n p1 p2 p3 p4 p5 p6)), .unset, .unset, .unset, .unset, .unset, .unset, .unset, .unset, .unset, .unset, .unset, .unset, .unset, .unset, .unset, .unset, .unset, .unset, .unset] [(.int ((p4 &&& (2147483647 : Int32)) - (p4 &&& (2147483647 : Int32)) / ((lw_n p1 p2 p3 p4 p5 p6) + (1 : Int32)) * ((lw_n p1 p2 p3 p4 p5 p6) + (1 : Int32))))])) _
    refine XS.istore X0.here hx rfl (hb hby at_17) rfl (l' := #[.val (.int p1), .val (.int p2), .val (.int p3), .val (.int p4), .val (.long p5), .second, .val (.long p6), .second, .val (.int (lw_n p1 p2 p3 p4 p5 p6)), .val (.int (lw_k p1 p2 p3 p4 p5 p6)), .unset, .unset, .unset, .unset, .unset, .unset, .unset, .unset, .unset, .unset, .unset, .unset, .unset, .unset, .unset, .unset, .unset, .unset]) rfl ?_
    show Steps p.tables e below (s₁.setTop (mkF m 19 #[.val (.int p1), .val (.int p2), .val (.int p3), .val (.int p4), .val (.long p5), .second, .val (.long p6), .second, .val (.int (lw_n p1 p2 p3 p4 p5 p6)), .val (.int (lw_k p1 p2 p3 p4 p5 p6)), .unset, .unset, .unset, .unset, .unset, .unset, .unset, .unset, .unset, .unset, .unset, .unset, .unset, .unset, .unset, .unset, .unset, .unset] [])) _
    refine st1 _ ?_
    show Steps p.tables e below (T1.setTop (mkF m 22 #[.val (.int p1), .val (.int p2), .val (.int p3), .val (.int p4), .val (.long p5), .second, .val (.long p6), .second, .val (.int (lw_n p1 p2 p3 p4 p5 p6)), .val (.int (lw_k p1 p2 p3 p4 p5 p6)), .unset, .unset, .unset, .unset, .unset, .unset, .unset, .unset, .unset, .unset, .unset, .unset, .unset, .unset, .unset, .unset, .unset, .unset] [(.ref ad1)])) _
    refine XS.dup X1.here hx rfl (hb hby at_22) rfl rfl ?_
    show Steps p.tables e below (T1.setTop (mkF m 23 #[.val (.int p1), .val (.int p2), .val (.int p3), .val (.int p4), .val (.long p5), .second, .val (.long p6), .second, .val (.int (lw_n p1 p2 p3 p4 p5 p6)), .val (.int (lw_k p1 p2 p3 p4 p5 p6)), .unset, .unset, .unset, .unset, .unset, .unset, .unset, .unset, .unset, .unset, .unset, .unset, .unset, .unset, .unset, .unset, .unset, .unset] [(.ref ad1), (.ref ad1)])) _
    refine XS.iloadN X1.here hx rfl (hb hby at_23) rfl ?_
    show Steps p.tables e below (T1.setTop (mkF m 24 #[.val (.int p1), .val (.int p2), .val (.int p3), .val (.int p4), .val (.long p5), .second, .val (.long p6), .second, .val (.int (lw_n p1 p2 p3 p4 p5 p6)), .val (.int (lw_k p1 p2 p3 p4 p5 p6)), .unset, .unset, .unset, .unset, .unset, .unset, .unset, .unset, .unset, .unset, .unset, .unset, .unset, .unset, .unset, .unset, .unset, .unset] [(.int p1), (.ref ad1), (.ref ad1)])) _
    refine XS.i2dS X1.here hx rfl (hb hby at_24) rfl rfl ?_
    show Steps p.tables e below (T1.setTop (mkF m 25 #[.val (.int p1), .val (.int p2), .val (.int p3), .val (.int p4), .val (.long p5), .second, .val (.long p6), .second, .val (.int (lw_n p1 p2 p3 p4 p5 p6)), .val (.int (lw_k p1 p2 p3 p4 p5 p6)), .unset, .unset, .unset, .unset, .unset, .unset, .unset, .unset, .unset, .unset, .unset, .unset, .unset, .unset, .unset, .unset, .unset, .unset] [(.double (FP.i2d p1)), (.ref ad1), (.ref ad1)])) _
    refine XS.iloadN X1.here hx rfl (hb hby at_25) rfl ?_
    show Steps p.tables e below (T1.setTop (mkF m 26 #[.val (.int p1), .val (.int p2), .val (.int p3), .val (.int p4), .val (.long p5), .second, .val (.long p6), .second, .val (.int (lw_n p1 p2 p3 p4 p5 p6)), .val (.int (lw_k p1 p2 p3 p4 p5 p6)), .unset, .unset, .unset, .unset, .unset, .unset, .unset, .unset, .unset, .unset, .unset, .unset, .unset, .unset, .unset, .unset, .unset, .unset] [(.int p2), (.double (FP.i2d p1)), (.ref ad1), (.ref ad1)])) _
    refine XS.i2dS X1.here hx rfl (hb hby at_26) rfl rfl ?_
    show Steps p.tables e below (T1.setTop (mkF m 27 #[.val (.int p1), .val (.int p2), .val (.int p3), .val (.int p4), .val (.long p5), .second, .val (.long p6), .second, .val (.int (lw_n p1 p2 p3 p4 p5 p6)), .val (.int (lw_k p1 p2 p3 p4 p5 p6)), .unset, .unset, .unset, .unset, .unset, .unset, .unset, .unset, .unset, .unset, .unset, .unset, .unset, .unset, .unset, .unset, .unset, .unset] [(.double (FP.i2d p2)), (.double (FP.i2d p1)), (.ref ad1), (.ref ad1)])) _
    refine XS.iload X1.here hx rfl (hb hby at_27) rfl ?_
    show Steps p.tables e below (T1.setTop (mkF m 29 #[.val (.int p1), .val (.int p2), .val (.int p3), .val (.int p4), .val (.long p5), .second, .val (.long p6), .second, .val (.int (lw_n p1 p2 p3 p4 p5 p6)), .val (.int (lw_k p1 p2 p3 p4 p5 p6)), .unset, .unset, .unset, .unset, .unset, .unset, .unset, .unset, .unset, .unset, .unset, .unset, .unset, .unset, .unset, .unset, .unset, .unset] [(.int (lw_n p1 p2 p3 p4 p5 p6)), (.double (FP.i2d p2)), (.double (FP.i2d p1)), (.ref ad1), (.ref ad1)])) _
    refine st2.trans ?_
    show Steps p.tables e below (T2.setTop (mkF m 32 #[.val (.int p1), .val (.int p2), .val (.int p3), .val (.int p4), .val (.long p5), .second, .val (.long p6), .second, .val (.int (lw_n p1 p2 p3 p4 p5 p6)), .val (.int (lw_k p1 p2 p3 p4 p5 p6)), .unset, .unset, .unset, .unset, .unset, .unset, .unset, .unset, .unset, .unset, .unset, .unset, .unset, .unset, .unset, .unset, .unset, .unset] [(.ref ad1)])) _
    refine XS.astore X2.here hx rfl (hb hby at_32) rfl rfl (l' := #[.val (.int p1), .val (.int p2), .val (.int p3), .val (.int p4), .val (.long p5), .second, .val (.long p6), .second, .val (.int (lw_n p1 p2 p3 p4 p5 p6)), .val (.int (lw_k p1 p2 p3 p4 p5 p6)), .val (.ref ad1), .unset, .unset, .unset, .unset, .unset, .unset, .unset, .unset, .unset, .unset, .unset, .unset, .unset, .unset, .unset, .unset, .unset]) rfl ?_
    show Steps p.tables e below (T2.setTop (mkF m 34 #[.val (.int p1), .val (.int p2), .val (.int p3), .val (.int p4), .val (.long p5), .second, .val (.long p6), .second, .val (.int (lw_n p1 p2 p3 p4 p5 p6)), .val (.int (lw_k p1 p2 p3 p4 p5 p6)), .val (.ref ad1), .unset, .unset, .unset, .unset, .unset, .unset, .unset, .unset, .unset, .unset, .unset, .unset, .unset, .unset, .unset, .unset, .unset] [])) _
    refine st3 _ ?_
    show Steps p.tables e below (T3.setTop (mkF m 37 #[.val (.int p1), .val (.int p2), .val (.int p3), .val (.int p4), .val (.long p5), .second, .val (.long p6), .second, .val (.int (lw_n p1 p2 p3 p4 p5 p6)), .val (.int (lw_k p1 p2 p3 p4 p5 p6)), .val (.ref ad1), .unset, .unset, .unset, .unset, .unset, .unset, .unset, .unset, .unset, .unset, .unset, .unset, .unset, .unset, .unset, .unset, .unset] [(.ref ad3)])) _
    refine XS.dup X3.here hx rfl (hb hby at_37) rfl rfl ?_
    show Steps p.tables e below (T3.setTop (mkF m 38 #[.val (.int p1), .val (.int p2), .val (.int p3), .val (.int p4), .val (.long p5), .second, .val (.long p6), .second, .val (.int (lw_n p1 p2 p3 p4 p5 p6)), .val (.int (lw_k p1 p2 p3 p4 p5 p6)), .val (.ref ad1), .unset, .unset, .unset, .unset, .unset, .unset, .unset, .unset, .unset, .unset, .unset, .unset, .unset, .unset, .unset, .unset, .unset] [(.ref ad3), (.ref ad3)])) _
    refine XT.lload X3.here hx rfl (hb hby at_38) rfl ?_
    show Steps p.tables e below (T3.setTop (mkF m 40 #[.val (.int p1), .val (.int p2), .val (.int p3), .val (.int p4), .val (.long p5), .second, .val (.long p6), .second, .val (.int (lw_n p1 p2 p3 p4 p5 p6)), .val (.int (lw_k p1 p2 p3 p4 p5 p6)), .val (.ref ad1), .unset, .unset, .unset, .unset, .unset, .unset, .unset, .unset, .unset, .unset, .unset, .unset, .unset, .unset, .unset, .unset, .unset] [(.long p5), (.ref ad3), (.ref ad3)])) _
    refine XS.l2dS X3.here hx rfl (hb hby at_40) rfl rfl ?_
    show Steps p.tables e below (T3.setTop (mkF m 41 #[.val (.int p1), .val (.int p2), .val (.int p3), .val (.int p4), .val (.long p5), .second, .val (.long p6), .second, .val (.int (lw_n p1 p2 p3 p4 p5 p6)), .val (.int (lw_k p1 p2 p3 p4 p5 p6)), .val (.ref ad1), .unset, .unset, .unset, .unset, .unset, .unset, .unset, .unset, .unset, .unset, .unset, .unset, .unset, .unset, .unset, .unset, .unset] [(.double (FP.l2d p5)), (.ref ad3), (.ref ad3)])) _
    refine XT.lload X3.here hx rfl (hb hby at_41) rfl ?_
    show Steps p.tables e below (T3.setTop (mkF m 43 #[.val (.int p1), .val (.int p2), .val (.int p3), .val (.int p4), .val (.long p5), .second, .val (.long p6), .second, .val (.int (lw_n p1 p2 p3 p4 p5 p6)), .val (.int (lw_k p1 p2 p3 p4 p5 p6)), .val (.ref ad1), .unset, .unset, .unset, .unset, .unset, .unset, .unset, .unset, .unset, .unset, .unset, .unset, .unset, .unset, .unset, .unset, .unset] [(.long p6), (.double (FP.l2d p5)), (.ref ad3), (.ref ad3)])) _
    refine XS.l2dS X3.here hx rfl (hb hby at_43) rfl rfl ?_
    show Steps p.tables e below (T3.setTop (mkF m 44 #[.val (.int p1), .val (.int p2), .val (.int p3), .val (.int p4), .val (.long p5), .second, .val (.long p6), .second, .val (.int (lw_n p1 p2 p3 p4 p5 p6)), .val (.int (lw_k p1 p2 p3 p4 p5 p6)), .val (.ref ad1), .unset, .unset, .unset, .unset, .unset, .unset, .unset, .unset, .unset, .unset, .unset, .unset, .unset, .unset, .unset, .unset, .unset] [(.double (FP.l2d p6)), (.double (FP.l2d p5)), (.ref ad3), (.ref ad3)])) _
    refine XS.iload X3.here hx rfl (hb hby at_44) rfl ?_
    show Steps p.tables e below (T3.setTop (mkF m 46 #[.val (.int p1), .val (.int p2), .val (.int p3), .val (.int p4), .val (.long p5), .second, .val (.long p6), .second, .val (.int (lw_n p1 p2 p3 p4 p5 p6)), .val (.int (lw_k p1 p2 p3 p4 p5 p6)), .val (.ref ad1), .unset, .unset, .unset, .unset, .unset, .unset, .unset, .unset, .unset, .unset, .unset, .unset, .unset, .unset, .unset, .unset, .unset] [(.int (lw_n p1 p2 p3 p4 p5 p6)), (.double (FP.l2d p6)), (.double (FP.l2d p5)), (.ref ad3), (.ref ad3)])) _
    refine st8.trans ?_
    show Steps p.tables e below (T8.setTop (mkF m 49 #[.val (.int p1), .val (.int p2), .val (.int p3), .val (.int p4), .val (.long p5), .second, .val (.long p6), .second, .val (.int (lw_n p1 p2 p3 p4 p5 p6)), .val (.int (lw_k p1 p2 p3 p4 p5 p6)), .val (.ref ad1), .unset, .unset, .unset, .unset, .unset, .unset, .unset, .unset, .unset, .unset, .unset, .unset, .unset, .unset, .unset, .unset, .unset] [(.ref ad3)])) _
    refine XS.astore X8.here hx rfl (hb hby at_49) rfl rfl (l' := #[.val (.int p1), .val (.int p2), .val (.int p3), .val (.int p4), .val (.long p5), .second, .val (.long p6), .second, .val (.int (lw_n p1 p2 p3 p4 p5 p6)), .val (.int (lw_k p1 p2 p3 p4 p5 p6)), .val (.ref ad1), .val (.ref ad3), .unset, .unset, .unset, .unset, .unset, .unset, .unset, .unset, .unset, .unset, .unset, .unset, .unset, .unset, .unset, .unset]) rfl ?_
    show Steps p.tables e below (T8.setTop (mkF m 51 #[.val (.int p1), .val (.int p2), .val (.int p3), .val (.int p4), .val (.long p5), .second, .val (.long p6), .second, .val (.int (lw_n p1 p2 p3 p4 p5 p6)), .val (.int (lw_k p1 p2 p3 p4 p5 p6)), .val (.ref ad1), .val (.ref ad3), .unset, .unset, .unset, .unset, .unset, .unset, .unset, .unset, .unset, .unset, .unset, .unset, .unset, .unset, .unset, .unset] [])) _
    refine XS.iloadN X8.here hx rfl (hb hby at_51) rfl ?_
    show Steps p.tables e below (T8.setTop (mkF m 52 #[.val (.int p1), .val (.int p2), .val (.int p3), .val (.int p4), .val (.long p5), .second, .val (.long p6), .second, .val (.int (lw_n p1 p2 p3 p4 p5 p6)), .val (.int (lw_k p1 p2 p3 p4 p5 p6)), .val (.ref ad1), .val (.ref ad3), .unset, .unset, .unset, .unset, .unset, .unset, .unset, .unset, .unset, .unset, .unset, .unset, .unset, .unset, .unset, .unset] [(.int p2)])) _
    refine XT.i2l X8.here hx rfl (hb hby at_52) rfl ?_
    show Steps p.tables e below (T8.setTop (mkF m 53 #[.val (.int p1), .val (.int p2), .val (.int p3), .val (.int p4), .val (.long p5), .second, .val (.long p6), .second, .val (.int (lw_n p1 p2 p3 p4 p5 p6)), .val (.int (lw_k p1 p2 p3 p4 p5 p6)), .val (.ref ad1), .val (.ref ad3), .unset, .unset, .unset, .unset, .unset, .unset, .unset, .unset, .unset, .unset, .unset, .unset, .unset, .unset, .unset, .unset] [(.long (Int32.toInt64 p2))])) _
    refine XS.iloadN X8.here hx rfl (hb hby at_53) rfl ?_
    show Steps p.tables e below (T8.setTop (mkF m 54 #[.val (.int p1), .val (.int p2), .val (.int p3), .val (.int p4), .val (.long p5), .second, .val (.long p6), .second, .val (.int (lw_n p1 p2 p3 p4 p5 p6)), .val (.int (lw_k p1 p2 p3 p4 p5 p6)), .val (.ref ad1), .val (.ref ad3), .unset, .unset, .unset, .unset, .unset, .unset, .unset, .unset, .unset, .unset, .unset, .unset, .unset, .unset, .unset, .unset] [(.int p1), (.long (Int32.toInt64 p2))])) _
    refine XT.i2l X8.here hx rfl (hb hby at_54) rfl ?_
    show Steps p.tables e below (T8.setTop (mkF m 55 #[.val (.int p1), .val (.int p2), .val (.int p3), .val (.int p4), .val (.long p5), .second, .val (.long p6), .second, .val (.int (lw_n p1 p2 p3 p4 p5 p6)), .val (.int (lw_k p1 p2 p3 p4 p5 p6)), .val (.ref ad1), .val (.ref ad3), .unset, .unset, .unset, .unset, .unset, .unset, .unset, .unset, .unset, .unset, .unset, .unset, .unset, .unset, .unset, .unset] [(.long (Int32.toInt64 p1)), (.long (Int32.toInt64 p2))])) _
    refine XT.lsub X8.here hx rfl (hb hby at_55) rfl ?_
    show Steps p.tables e below (T8.setTop (mkF m 56 #[.val (.int p1), .val (.int p2), .val (.int p3), .val (.int p4), .val (.long p5), .second, .val (.long p6), .second, .val (.int (lw_n p1 p2 p3 p4 p5 p6)), .val (.int (lw_k p1 p2 p3 p4 p5 p6)), .val (.ref ad1), .val (.ref ad3), .unset, .unset, .unset, .unset, .unset, .unset, .unset, .unset, .unset, .unset, .unset, .unset, .unset, .unset, .unset, .unset] [(.long ((Int32.toInt64 p2) - (Int32.toInt64 p1)))])) _
    refine XT.lstore X8.here hx rfl (hb hby at_56) rfl (l' := #[.val (.int p1), .val (.int p2), .val (.int p3), .val (.int p4), .val (.long p5), .second, .val (.long p6), .second, .val (.int (lw_n p1 p2 p3 p4 p5 p6)), .val (.int (lw_k p1 p2 p3 p4 p5 p6)), .val (.ref ad1), .val (.ref ad3), .val (.long (lw_d p1 p2 p3 p4 p5 p6)), .second, .unset, .unset, .unset, .unset, .unset, .unset, .unset, .unset, .unset, .unset, .unset, .unset, .unset, .unset]) rfl ?_
    show Steps p.tables e below (T8.setTop (mkF m 58 #[.val (.int p1), .val (.int p2), .val (.int p3), .val (.int p4), .val (.long p5), .second, .val (.long p6), .second, .val (.int (lw_n p1 p2 p3 p4 p5 p6)), .val (.int (lw_k p1 p2 p3 p4 p5 p6)), .val (.ref ad1), .val (.ref ad3), .val (.long (lw_d p1 p2 p3 p4 p5 p6)), .second, .unset, .unset, .unset, .unset, .unset, .unset, .unset, .unset, .unset, .unset, .unset, .unset, .unset, .unset] [])) _
    refine XT.lload X8.here hx rfl (hb hby at_58) rfl ?_
    show Steps p.tables e below (T8.setTop (mkF m 60 #[.val (.int p1), .val (.int p2), .val (.int p3), .val (.int p4), .val (.long p5), .second, .val (.long p6), .second, .val (.int (lw_n p1 p2 p3 p4 p5 p6)), .val (.int (lw_k p1 p2 p3 p4 p5 p6)), .val (.ref ad1), .val (.ref ad3), .val (.long (lw_d p1 p2 p3 p4 p5 p6)), .second, .unset, .unset, .unset, .unset, .unset, .unset, .unset, .unset, .unset, .unset, .unset, .unset, .unset, .unset] [(.long (lw_d p1 p2 p3 p4 p5 p6))])) _
    refine XS.iload X8.here hx rfl (hb hby at_60) rfl ?_
    show Steps p.tables e below (T8.setTop (mkF m 62 #[.val (.int p1), .val (.int p2), .val (.int p3), .val (.int p4), .val (.long p5), .second, .val (.long p6), .second, .val (.int (lw_n p1 p2 p3 p4 p5 p6)), .val (.int (lw_k p1 p2 p3 p4 p5 p6)), .val (.ref ad1), .val (.ref ad3), .val (.long (lw_d p1 p2 p3 p4 p5 p6)), .second, .unset, .unset, .unset, .unset, .unset, .unset, .unset, .unset, .unset, .unset, .unset, .unset, .unset, .unset] [(.int (lw_k p1 p2 p3 p4 p5 p6)), (.long (lw_d p1 p2 p3 p4 p5 p6))])) _
    refine XT.i2l X8.here hx rfl (hb hby at_62) rfl ?_
    show Steps p.tables e below (T8.setTop (mkF m 63 #[.val (.int p1), .val (.int p2), .val (.int p3), .val (.int p4), .val (.long p5), .second, .val (.long p6), .second, .val (.int (lw_n p1 p2 p3 p4 p5 p6)), .val (.int (lw_k p1 p2 p3 p4 p5 p6)), .val (.ref ad1), .val (.ref ad3), .val (.long (lw_d p1 p2 p3 p4 p5 p6)), .second, .unset, .unset, .unset, .unset, .unset, .unset, .unset, .unset, .unset, .unset, .unset, .unset, .unset, .unset] [(.long (Int32.toInt64 (lw_k p1 p2 p3 p4 p5 p6))), (.long (lw_d p1 p2 p3 p4 p5 p6))])) _
    refine XT.lmul X8.here hx rfl (hb hby at_63) rfl ?_
    show Steps p.tables e below (T8.setTop (mkF m 64 #[.val (.int p1), .val (.int p2), .val (.int p3), .val (.int p4), .val (.long p5), .second, .val (.long p6), .second, .val (.int (lw_n p1 p2 p3 p4 p5 p6)), .val (.int (lw_k p1 p2 p3 p4 p5 p6)), .val (.ref ad1), .val (.ref ad3), .val (.long (lw_d p1 p2 p3 p4 p5 p6)), .second, .unset, .unset, .unset, .unset, .unset, .unset, .unset, .unset, .unset, .unset, .unset, .unset, .unset, .unset] [(.long ((lw_d p1 p2 p3 p4 p5 p6) * (Int32.toInt64 (lw_k p1 p2 p3 p4 p5 p6))))])) _
    refine XT.lstore X8.here hx rfl (hb hby at_64) rfl (l' := #[.val (.int p1), .val (.int p2), .val (.int p3), .val (.int p4), .val (.long p5), .second, .val (.long p6), .second, .val (.int (lw_n p1 p2 p3 p4 p5 p6)), .val (.int (lw_k p1 p2 p3 p4 p5 p6)), .val (.ref ad1), .val (.ref ad3), .val (.long (lw_d p1 p2 p3 p4 p5 p6)), .second, .val (.long (lw_num p1 p2 p3 p4 p5 p6)), .second, .unset, .unset, .unset, .unset, .unset, .unset, .unset, .unset, .unset, .unset, .unset, .unset]) rfl ?_
    show Steps p.tables e below (T8.setTop (mkF m 66 #[.val (.int p1), .val (.int p2), .val (.int p3), .val (.int p4), .val (.long p5), .second, .val (.long p6), .second, .val (.int (lw_n p1 p2 p3 p4 p5 p6)), .val (.int (lw_k p1 p2 p3 p4 p5 p6)), .val (.ref ad1), .val (.ref ad3), .val (.long (lw_d p1 p2 p3 p4 p5 p6)), .second, .val (.long (lw_num p1 p2 p3 p4 p5 p6)), .second, .unset, .unset, .unset, .unset, .unset, .unset, .unset, .unset, .unset, .unset, .unset, .unset] [])) _
    refine XT.lload X8.here hx rfl (hb hby at_66) rfl ?_
    show Steps p.tables e below (T8.setTop (mkF m 68 #[.val (.int p1), .val (.int p2), .val (.int p3), .val (.int p4), .val (.long p5), .second, .val (.long p6), .second, .val (.int (lw_n p1 p2 p3 p4 p5 p6)), .val (.int (lw_k p1 p2 p3 p4 p5 p6)), .val (.ref ad1), .val (.ref ad3), .val (.long (lw_d p1 p2 p3 p4 p5 p6)), .second, .val (.long (lw_num p1 p2 p3 p4 p5 p6)), .second, .unset, .unset, .unset, .unset, .unset, .unset, .unset, .unset, .unset, .unset, .unset, .unset] [(.long (lw_num p1 p2 p3 p4 p5 p6))])) _
    refine XS.iload X8.here hx rfl (hb hby at_68) rfl ?_
    show Steps p.tables e below (T8.setTop (mkF m 70 #[.val (.int p1), .val (.int p2), .val (.int p3), .val (.int p4), .val (.long p5), .second, .val (.long p6), .second, .val (.int (lw_n p1 p2 p3 p4 p5 p6)), .val (.int (lw_k p1 p2 p3 p4 p5 p6)), .val (.ref ad1), .val (.ref ad3), .val (.long (lw_d p1 p2 p3 p4 p5 p6)), .second, .val (.long (lw_num p1 p2 p3 p4 p5 p6)), .second, .unset, .unset, .unset, .unset, .unset, .unset, .unset, .unset, .unset, .unset, .unset, .unset] [(.int (lw_n p1 p2 p3 p4 p5 p6)), (.long (lw_num p1 p2 p3 p4 p5 p6))])) _
    refine XT.i2l X8.here hx rfl (hb hby at_70) rfl ?_
    show Steps p.tables e below (T8.setTop (mkF m 71 #[.val (.int p1), .val (.int p2), .val (.int p3), .val (.int p4), .val (.long p5), .second, .val (.long p6), .second, .val (.int (lw_n p1 p2 p3 p4 p5 p6)), .val (.int (lw_k p1 p2 p3 p4 p5 p6)), .val (.ref ad1), .val (.ref ad3), .val (.long (lw_d p1 p2 p3 p4 p5 p6)), .second, .val (.long (lw_num p1 p2 p3 p4 p5 p6)), .second, .unset, .unset, .unset, .unset, .unset, .unset, .unset, .unset, .unset, .unset, .unset, .unset] [(.long (Int32.toInt64 (lw_n p1 p2 p3 p4 p5 p6))), (.long (lw_num p1 p2 p3 p4 p5 p6))])) _
    refine XT.ldiv X8.here hx rfl (hb hby at_71) rfl (own_nL p1 p2 p3 p4 p5 p6) ?_
    show Steps p.tables e below (T8.setTop (mkF m 72 #[.val (.int p1), .val (.int p2), .val (.int p3), .val (.int p4), .val (.long p5), .second, .val (.long p6), .second, .val (.int (lw_n p1 p2 p3 p4 p5 p6)), .val (.int (lw_k p1 p2 p3 p4 p5 p6)), .val (.ref ad1), .val (.ref ad3), .val (.long (lw_d p1 p2 p3 p4 p5 p6)), .second, .val (.long (lw_num p1 p2 p3 p4 p5 p6)), .second, .unset, .unset, .unset, .unset, .unset, .unset, .unset, .unset, .unset, .unset, .unset, .unset] [(.long ((lw_num p1 p2 p3 p4 p5 p6) / (Int32.toInt64 (lw_n p1 p2 p3 p4 p5 p6))))])) _
    refine XT.lstore X8.here hx rfl (hb hby at_72) rfl (l' := #[.val (.int p1), .val (.int p2), .val (.int p3), .val (.int p4), .val (.long p5), .second, .val (.long p6), .second, .val (.int (lw_n p1 p2 p3 p4 p5 p6)), .val (.int (lw_k p1 p2 p3 p4 p5 p6)), .val (.ref ad1), .val (.ref ad3), .val (.long (lw_d p1 p2 p3 p4 p5 p6)), .second, .val (.long (lw_num p1 p2 p3 p4 p5 p6)), .second, .val (.long (lw_q p1 p2 p3 p4 p5 p6)), .second, .unset, .unset, .unset, .unset, .unset, .unset, .unset, .unset, .unset, .unset]) rfl ?_
    show Steps p.tables e below (T8.setTop (mkF m 74 #[.val (.int p1), .val (.int p2), .val (.int p3), .val (.int p4), .val (.long p5), .second, .val (.long p6), .second, .val (.int (lw_n p1 p2 p3 p4 p5 p6)), .val (.int (lw_k p1 p2 p3 p4 p5 p6)), .val (.ref ad1), .val (.ref ad3), .val (.long (lw_d p1 p2 p3 p4 p5 p6)), .second, .val (.long (lw_num p1 p2 p3 p4 p5 p6)), .second, .val (.long (lw_q p1 p2 p3 p4 p5 p6)), .second, .unset, .unset, .unset, .unset, .unset, .unset, .unset, .unset, .unset, .unset] [])) _
    refine XT.lload X8.here hx rfl (hb hby at_74) rfl ?_
    show Steps p.tables e below (T8.setTop (mkF m 76 #[.val (.int p1), .val (.int p2), .val (.int p3), .val (.int p4), .val (.long p5), .second, .val (.long p6), .second, .val (.int (lw_n p1 p2 p3 p4 p5 p6)), .val (.int (lw_k p1 p2 p3 p4 p5 p6)), .val (.ref ad1), .val (.ref ad3), .val (.long (lw_d p1 p2 p3 p4 p5 p6)), .second, .val (.long (lw_num p1 p2 p3 p4 p5 p6)), .second, .val (.long (lw_q p1 p2 p3 p4 p5 p6)), .second, .unset, .unset, .unset, .unset, .unset, .unset, .unset, .unset, .unset, .unset] [(.long (lw_num p1 p2 p3 p4 p5 p6))])) _
    refine XS.iload X8.here hx rfl (hb hby at_76) rfl ?_
    show Steps p.tables e below (T8.setTop (mkF m 78 #[.val (.int p1), .val (.int p2), .val (.int p3), .val (.int p4), .val (.long p5), .second, .val (.long p6), .second, .val (.int (lw_n p1 p2 p3 p4 p5 p6)), .val (.int (lw_k p1 p2 p3 p4 p5 p6)), .val (.ref ad1), .val (.ref ad3), .val (.long (lw_d p1 p2 p3 p4 p5 p6)), .second, .val (.long (lw_num p1 p2 p3 p4 p5 p6)), .second, .val (.long (lw_q p1 p2 p3 p4 p5 p6)), .second, .unset, .unset, .unset, .unset, .unset, .unset, .unset, .unset, .unset, .unset] [(.int (lw_n p1 p2 p3 p4 p5 p6)), (.long (lw_num p1 p2 p3 p4 p5 p6))])) _
    refine XT.i2l X8.here hx rfl (hb hby at_78) rfl ?_
    show Steps p.tables e below (T8.setTop (mkF m 79 #[.val (.int p1), .val (.int p2), .val (.int p3), .val (.int p4), .val (.long p5), .second, .val (.long p6), .second, .val (.int (lw_n p1 p2 p3 p4 p5 p6)), .val (.int (lw_k p1 p2 p3 p4 p5 p6)), .val (.ref ad1), .val (.ref ad3), .val (.long (lw_d p1 p2 p3 p4 p5 p6)), .second, .val (.long (lw_num p1 p2 p3 p4 p5 p6)), .second, .val (.long (lw_q p1 p2 p3 p4 p5 p6)), .second, .unset, .unset, .unset, .unset, .unset, .unset, .unset, .unset, .unset, .unset] [(.long (Int32.toInt64 (lw_n p1 p2 p3 p4 p5 p6))), (.long (lw_num p1 p2 p3 p4 p5 p6))])) _
    refine XT.lrem X8.here hx rfl (hb hby at_79) rfl (own_nL p1 p2 p3 p4 p5 p6) ?_
    show Steps p.tables e below (T8.setTop (mkF m 80 #[.val (.int p1), .val (.int p2), .val (.int p3), .val (.int p4), .val (.long p5), .second, .val (.long p6), .second, .val (.int (lw_n p1 p2 p3 p4 p5 p6)), .val (.int (lw_k p1 p2 p3 p4 p5 p6)), .val (.ref ad1), .val (.ref ad3), .val (.long (lw_d p1 p2 p3 p4 p5 p6)), .second, .val (.long (lw_num p1 p2 p3 p4 p5 p6)), .second, .val (.long (lw_q p1 p2 p3 p4 p5 p6)), .second, .unset, .unset, .unset, .unset, .unset, .unset, .unset, .unset, .unset, .unset] [(.long ((lw_num p1 p2 p3 p4 p5 p6) - (lw_num p1 p2 p3 p4 p5 p6) / (Int32.toInt64 (lw_n p1 p2 p3 p4 p5 p6)) * (Int32.toInt64 (lw_n p1 p2 p3 p4 p5 p6))))])) _
    refine XT.lstore X8.here hx rfl (hb hby at_80) rfl (l' := #[.val (.int p1), .val (.int p2), .val (.int p3), .val (.int p4), .val (.long p5), .second, .val (.long p6), .second, .val (.int (lw_n p1 p2 p3 p4 p5 p6)), .val (.int (lw_k p1 p2 p3 p4 p5 p6)), .val (.ref ad1), .val (.ref ad3), .val (.long (lw_d p1 p2 p3 p4 p5 p6)), .second, .val (.long (lw_num p1 p2 p3 p4 p5 p6)), .second, .val (.long (lw_q p1 p2 p3 p4 p5 p6)), .second, .val (.long (lw_r p1 p2 p3 p4 p5 p6)), .second, .unset, .unset, .unset, .unset, .unset, .unset, .unset, .unset]) rfl ?_
    show Steps p.tables e below (T8.setTop (mkF m 82 #[.val (.int p1), .val (.int p2), .val (.int p3), .val (.int p4), .val (.long p5), .second, .val (.long p6), .second, .val (.int (lw_n p1 p2 p3 p4 p5 p6)), .val (.int (lw_k p1 p2 p3 p4 p5 p6)), .val (.ref ad1), .val (.ref ad3), .val (.long (lw_d p1 p2 p3 p4 p5 p6)), .second, .val (.long (lw_num p1 p2 p3 p4 p5 p6)), .second, .val (.long (lw_q p1 p2 p3 p4 p5 p6)), .second, .val (.long (lw_r p1 p2 p3 p4 p5 p6)), .second, .unset, .unset, .unset, .unset, .unset, .unset, .unset, .unset] [])) _
    refine XT.lload X8.here hx rfl (hb hby at_82) rfl ?_
    show Steps p.tables e below (T8.setTop (mkF m 84 #[.val (.int p1), .val (.int p2), .val (.int p3), .val (.int p4), .val (.long p5), .second, .val (.long p6), .second, .val (.int (lw_n p1 p2 p3 p4 p5 p6)), .val (.int (lw_k p1 p2 p3 p4 p5 p6)), .val (.ref ad1), .val (.ref ad3), .val (.long (lw_d p1 p2 p3 p4 p5 p6)), .second, .val (.long (lw_num p1 p2 p3 p4 p5 p6)), .second, .val (.long (lw_q p1 p2 p3 p4 p5 p6)), .second, .val (.long (lw_r p1 p2 p3 p4 p5 p6)), .second, .unset, .unset, .unset, .unset, .unset, .unset, .unset, .unset] [(.long (lw_r p1 p2 p3 p4 p5 p6))])) _
    refine XT.lconst X8.here hx rfl (hb hby at_84) ?_
    show Steps p.tables e below (T8.setTop (mkF m 85 #[.val (.int p1), .val (.int p2), .val (.int p3), .val (.int p4), .val (.long p5), .second, .val (.long p6), .second, .val (.int (lw_n p1 p2 p3 p4 p5 p6)), .val (.int (lw_k p1 p2 p3 p4 p5 p6)), .val (.ref ad1), .val (.ref ad3), .val (.long (lw_d p1 p2 p3 p4 p5 p6)), .second, .val (.long (lw_num p1 p2 p3 p4 p5 p6)), .second, .val (.long (lw_q p1 p2 p3 p4 p5 p6)), .second, .val (.long (lw_r p1 p2 p3 p4 p5 p6)), .second, .unset, .unset, .unset, .unset, .unset, .unset, .unset, .unset] [(.long (0 : Int64)), (.long (lw_r p1 p2 p3 p4 p5 p6))])) _
    refine XT.lcmp X8.here hx rfl (hb hby at_85) rfl ?_
    show Steps p.tables e below (T8.setTop (mkF m 86 #[.val (.int p1), .val (.int p2), .val (.int p3), .val (.int p4), .val (.long p5), .second, .val (.long p6), .second, .val (.int (lw_n p1 p2 p3 p4 p5 p6)), .val (.int (lw_k p1 p2 p3 p4 p5 p6)), .val (.ref ad1), .val (.ref ad3), .val (.long (lw_d p1 p2 p3 p4 p5 p6)), .second, .val (.long (lw_num p1 p2 p3 p4 p5 p6)), .second, .val (.long (lw_q p1 p2 p3 p4 p5 p6)), .second, .val (.long (lw_r p1 p2 p3 p4 p5 p6)), .second, .unset, .unset, .unset, .unset, .unset, .unset, .unset, .unset] [(.int (XT.cmpL (lw_r p1 p2 p3 p4 p5 p6) (0 : Int64)))])) _
    have sg13 : ∀ t, Steps p.tables e below (T8.setTop (mkF m 102 #[.val (.int p1), .val (.int p2), .val (.int p3), .val (.int p4), .val (.long p5), .second, .val (.long p6), .second, .val (.int (lw_n p1 p2 p3 p4 p5 p6)), .val (.int (lw_k p1 p2 p3 p4 p5 p6)), .val (.ref ad1), .val (.ref ad3), .val (.long (lw_d p1 p2 p3 p4 p5 p6)), .second, .val (.long (lw_num p1 p2 p3 p4 p5 p6)), .second, .val (.long (lw_qq p1 p2 p3 p4 p5 p6)), .second, .val (.long (lw_r p1 p2 p3 p4 p5 p6)), .second, .unset, .unset, .unset, .unset, .unset, .unset, .unset, .unset] [])) t → Steps p.tables e below (T8.setTop (mkF m 86 #[.val (.int p1), .val (.int p2), .val (.int p3), .val (.int p4), .val (.long p5), .second, .val (.long p6), .second, .val (.int (lw_n p1 p2 p3 p4 p5 p6)), .val (.int (lw_k p1 p2 p3 p4 p5 p6)), .val (.ref ad1), .val (.ref ad3), .val (.long (lw_d p1 p2 p3 p4 p5 p6)), .second, .val (.long (lw_num p1 p2 p3 p4 p5 p6)), .second, .val (.long (lw_q p1 p2 p3 p4 p5 p6)), .second, .val (.long (lw_r p1 p2 p3 p4 p5 p6)), .second, .unset, .unset, .unset, .unset, .unset, .unset, .unset, .unset] [(.int (XT.cmpL (lw_r p1 p2 p3 p4 p5 p6) (0 : Int64)))])) t := by
      intro t k
      by_cases c14 : (ifCond.holds .eq (XT.cmpL (lw_r p1 p2 p3 p4 p5 p6) (0 : Int64))) = true
      · refine XS.ifYes X8.here hx rfl (pc0 := 86) (pc' := 102) rfl (hb hby at_86) rfl c14 (by decide) (by decide) ?_
        show Steps p.tables e below (T8.setTop (mkF m 102 #[.val (.int p1), .val (.int p2), .val (.int p3), .val (.int p4), .val (.long p5), .second, .val (.long p6), .second, .val (.int (lw_n p1 p2 p3 p4 p5 p6)), .val (.int (lw_k p1 p2 p3 p4 p5 p6)), .val (.ref ad1), .val (.ref ad3), .val (.long (lw_d p1 p2 p3 p4 p5 p6)), .second, .val (.long (lw_num p1 p2 p3 p4 p5 p6)), .second, .val (.long (lw_q p1 p2 p3 p4 p5 p6)), .second, .val (.long (lw_r p1 p2 p3 p4 p5 p6)), .second, .unset, .unset, .unset, .unset, .unset, .unset, .unset, .unset] [])) t
        have q : (lw_qq p1 p2 p3 p4 p5 p6) = (lw_q p1 p2 p3 p4 p5 p6) := by simp only [lw_qq, c14, if_true, if_false, Bool.false_eq_true]; try rfl
        rw [q] at k
        clear q
        exact k
      · refine XS.ifNo X8.here hx rfl (hb hby at_86) rfl (Bool.eq_false_iff.mpr c14) ?_
        show Steps p.tables e below (T8.setTop (mkF m 89 #[.val (.int p1), .val (.int p2), .val (.int p3), .val (.int p4), .val (.long p5), .second, .val (.long p6), .second, .val (.int (lw_n p1 p2 p3 p4 p5 p6)), .val (.int (lw_k p1 p2 p3 p4 p5 p6)), .val (.ref ad1), .val (.ref ad3), .val (.long (lw_d p1 p2 p3 p4 p5 p6)), .second, .val (.long (lw_num p1 p2 p3 p4 p5 p6)), .second, .val (.long (lw_q p1 p2 p3 p4 p5 p6)), .second, .val (.long (lw_r p1 p2 p3 p4 p5 p6)), .second, .unset, .unset, .unset, .unset, .unset, .unset, .unset, .unset] [])) t
        refine XT.lload X8.here hx rfl (hb hby at_89) rfl ?_
        show Steps p.tables e below (T8.setTop (mkF m 91 #[.val (.int p1), .val (.int p2), .val (.int p3), .val (.int p4), .val (.long p5), .second, .val (.long p6), .second, .val (.int (lw_n p1 p2 p3 p4 p5 p6)), .val (.int (lw_k p1 p2 p3 p4 p5 p6)), .val (.ref ad1), .val (.ref ad3), .val (.long (lw_d p1 p2 p3 p4 p5 p6)), .second, .val (.long (lw_num p1 p2 p3 p4 p5 p6)), .second, .val (.long (lw_q p1 p2 p3 p4 p5 p6)), .second, .val (.long (lw_r p1 p2 p3 p4 p5 p6)), .second, .unset, .unset, .unset, .unset, .unset, .unset, .unset, .unset] [(.long (lw_num p1 p2 p3 p4 p5 p6))])) t
        refine XT.lconst X8.here hx rfl (hb hby at_91) ?_
        show Steps p.tables e below (T8.setTop (mkF m 92 #[.val (.int p1), .val (.int p2), .val (.int p3), .val (.int p4), .val (.long p5), .second, .val (.long p6), .second, .val (.int (lw_n p1 p2 p3 p4 p5 p6)), .val (.int (lw_k p1 p2 p3 p4 p5 p6)), .val (.ref ad1), .val (.ref ad3), .val (.long (lw_d p1 p2 p3 p4 p5 p6)), .second, .val (.long (lw_num p1 p2 p3 p4 p5 p6)), .second, .val (.long (lw_q p1 p2 p3 p4 p5 p6)), .second, .val (.long (lw_r p1 p2 p3 p4 p5 p6)), .second, .unset, .unset, .unset, .unset, .unset, .unset, .unset, .unset] [(.long (0 : Int64)), (.long (lw_num p1 p2 p3 p4 p5 p6))])) t
        refine XT.lcmp X8.here hx rfl (hb hby at_92) rfl ?_
        show Steps p.tables e below (T8.setTop (mkF m 93 #[.val (.int p1), .val (.int p2), .val (.int p3), .val (.int p4), .val (.long p5), .second, .val (.long p6), .second, .val (.int (lw_n p1 p2 p3 p4 p5 p6)), .val (.int (lw_k p1 p2 p3 p4 p5 p6)), .val (.ref ad1), .val (.ref ad3), .val (.long (lw_d p1 p2 p3 p4 p5 p6)), .second, .val (.long (lw_num p1 p2 p3 p4 p5 p6)), .second, .val (.long (lw_q p1 p2 p3 p4 p5 p6)), .second, .val (.long (lw_r p1 p2 p3 p4 p5 p6)), .second, .unset, .unset, .unset, .unset, .unset, .unset, .unset, .unset] [(.int (XT.cmpL (lw_num p1 p2 p3 p4 p5 p6) (0 : Int64)))])) t
        by_cases c15 : (ifCond.holds .ge (XT.cmpL (lw_num p1 p2 p3 p4 p5 p6) (0 : Int64))) = true
        · refine XS.ifYes X8.here hx rfl (pc0 := 93) (pc' := 102) rfl (hb hby at_93) rfl c15 (by decide) (by decide) ?_
          show Steps p.tables e below (T8.setTop (mkF m 102 #[.val (.int p1), .val (.int p2), .val (.int p3), .val (.int p4), .val (.long p5), .second, .val (.long p6), .second, .val (.int (lw_n p1 p2 p3 p4 p5 p6)), .val (.int (lw_k p1 p2 p3 p4 p5 p6)), .val (.ref ad1), .val (.ref ad3), .val (.long (lw_d p1 p2 p3 p4 p5 p6)), .second, .val (.long (lw_num p1 p2 p3 p4 p5 p6)), .second, .val (.long (lw_q p1 p2 p3 p4 p5 p6)), .second, .val (.long (lw_r p1 p2 p3 p4 p5 p6)), .second, .unset, .unset, .unset, .unset, .unset, .unset, .unset, .unset] [])) t
          have q : (lw_qq p1 p2 p3 p4 p5 p6) = (lw_q p1 p2 p3 p4 p5 p6) := by simp only [lw_qq, c14, c15, if_true, if_false, Bool.false_eq_true]; try rfl
          rw [q] at k
          clear q
          exact k
        · refine XS.ifNo X8.here hx rfl (hb hby at_93) rfl (Bool.eq_false_iff.mpr c15) ?_
          show Steps p.tables e below (T8.setTop (mkF m 96 #[.val (.int p1), .val (.int p2), .val (.int p3), .val (.int p4), .val (.long p5), .second, .val (.long p6), .second, .val (.int (lw_n p1 p2 p3 p4 p5 p6)), .val (.int (lw_k p1 p2 p3 p4 p5 p6)), .val (.ref ad1), .val (.ref ad3), .val (.long (lw_d p1 p2 p3 p4 p5 p6)), .second, .val (.long (lw_num p1 p2 p3 p4 p5 p6)), .second, .val (.long (lw_q p1 p2 p3 p4 p5 p6)), .second, .val (.long (lw_r p1 p2 p3 p4 p5 p6)), .second, .unset, .unset, .unset, .unset, .unset, .unset, .unset, .unset] [])) t
          refine XT.lload X8.here hx rfl (hb hby at_96) rfl ?_
          show Steps p.tables e below (T8.setTop (mkF m 98 #[.val (.int p1), .val (.int p2), .val (.int p3), .val (.int p4), .val (.long p5), .second, .val (.long p6), .second, .val (.int (lw_n p1 p2 p3 p4 p5 p6)), .val (.int (lw_k p1 p2 p3 p4 p5 p6)), .val (.ref ad1), .val (.ref ad3), .val (.long (lw_d p1 p2 p3 p4 p5 p6)), .second, .val (.long (lw_num p1 p2 p3 p4 p5 p6)), .second, .val (.long (lw_q p1 p2 p3 p4 p5 p6)), .second, .val (.long (lw_r p1 p2 p3 p4 p5 p6)), .second, .unset, .unset, .unset, .unset, .unset, .unset, .unset, .unset] [(.long (lw_q p1 p2 p3 p4 p5 p6))])) t
          refine XT.lconst X8.here hx rfl (hb hby at_98) ?_
          show Steps p.tables e below (T8.setTop (mkF m 99 #[.val (.int p1), .val (.int p2), .val (.int p3), .val (.int p4), .val (.long p5), .second, .val (.long p6), .second, .val (.int (lw_n p1 p2 p3 p4 p5 p6)), .val (.int (lw_k p1 p2 p3 p4 p5 p6)), .val (.ref ad1), .val (.ref ad3), .val (.long (lw_d p1 p2 p3 p4 p5 p6)), .second, .val (.long (lw_num p1 p2 p3 p4 p5 p6)), .second, .val (.long (lw_q p1 p2 p3 p4 p5 p6)), .second, .val (.long (lw_r p1 p2 p3 p4 p5 p6)), .second, .unset, .unset, .unset, .unset, .unset, .unset, .unset, .unset] [(.long (1 : Int64)), (.long (lw_q p1 p2 p3 p4 p5 p6))])) t
          refine XT.lsub X8.here hx rfl (hb hby at_99) rfl ?_
          show Steps p.tables e below (T8.setTop (mkF m 100 #[.val (.int p1), .val (.int p2), .val (.int p3), .val (.int p4), .val (.long p5), .second, .val (.long p6), .second, .val (.int (lw_n p1 p2 p3 p4 p5 p6)), .val (.int (lw_k p1 p2 p3 p4 p5 p6)), .val (.ref ad1), .val (.ref ad3), .val (.long (lw_d p1 p2 p3 p4 p5 p6)), .second, .val (.long (lw_num p1 p2 p3 p4 p5 p6)), .second, .val (.long (lw_q p1 p2 p3 p4 p5 p6)), .second, .val (.long (lw_r p1 p2 p3 p4 p5 p6)), .second, .unset, .unset, .unset, .unset, .unset, .unset, .unset, .unset] [(.long ((lw_q p1 p2 p3 p4 p5 p6) - (1 : Int64)))])) t
          refine XT.lstore X8.here hx rfl (hb hby at_100) rfl (l' := #[.val (.int p1), .val (.int p2), .val (.int p3), .val (.int p4), .val (.long p5), .second, .val (.long p6), .second, .val (.int (lw_n p1 p2 p3 p4 p5 p6)), .val (.int (lw_k p1 p2 p3 p4 p5 p6)), .val (.ref ad1), .val (.ref ad3), .val (.long (lw_d p1 p2 p3 p4 p5 p6)), .second, .val (.long (lw_num p1 p2 p3 p4 p5 p6)), .second, .val (.long ((lw_q p1 p2 p3 p4 p5 p6) - (1 : Int64))), .second, .val (.long (lw_r p1 p2 p3 p4 p5 p6)), .second, .unset, .unset, .unset, .unset, .unset, .unset, .unset, .unset]) rfl ?_
          show Steps p.tables e below (T8.setTop (mkF m 102 #[.val (.int p1), .val (.int p2), .val (.int p3), .val (.int p4), .val (.long p5), .second, .val (.long p6), .second, .val (.int (lw_n p1 p2 p3 p4 p5 p6)), .val (.int (lw_k p1 p2 p3 p4 p5 p6)), .val (.ref ad1), .val (.ref ad3), .val (.long (lw_d p1 p2 p3 p4 p5 p6)), .second, .val (.long (lw_num p1 p2 p3 p4 p5 p6)), .second, .val (.long ((lw_q p1 p2 p3 p4 p5 p6) - (1 : Int64))), .second, .val (.long (lw_r p1 p2 p3 p4 p5 p6)), .second, .unset, .unset, .unset, .unset, .unset, .unset, .unset, .unset] [])) t
          have q : (lw_qq p1 p2 p3 p4 p5 p6) = ((lw_q p1 p2 p3 p4 p5 p6) - (1 : Int64)) := by simp only [lw_qq, c14, c15, if_true, if_false, Bool.false_eq_true]; try rfl
          rw [q] at k
          clear q
          exact k
    refine sg13 _ ?_
    show Steps p.tables e below (T8.setTop (mkF m 102 #[.val (.int p1), .val (.int p2), .val (.int p3), .val (.int p4), .val (.long p5), .second, .val (.long p6), .second, .val (.int (lw_n p1 p2 p3 p4 p5 p6)), .val (.int (lw_k p1 p2 p3 p4 p5 p6)), .val (.ref ad1), .val (.ref ad3), .val (.long (lw_d p1 p2 p3 p4 p5 p6)), .second, .val (.long (lw_num p1 p2 p3 p4 p5 p6)), .second, .val (.long (lw_qq p1 p2 p3 p4 p5 p6)), .second, .val (.long (lw_r p1 p2 p3 p4 p5 p6)), .second, .unset, .unset, .unset, .unset, .unset, .unset, .unset, .unset] [])) _
    refine XS.iloadN X8.here hx rfl (hb hby at_102) rfl ?_
    show Steps p.tables e below (T8.setTop (mkF m 103 #[.val (.int p1), .val (.int p2), .val (.int p3), .val (.int p4), .val (.long p5), .second, .val (.long p6), .second, .val (.int (lw_n p1 p2 p3 p4 p5 p6)), .val (.int (lw_k p1 p2 p3 p4 p5 p6)), .val (.ref ad1), .val (.ref ad3), .val (.long (lw_d p1 p2 p3 p4 p5 p6)), .second, .val (.long (lw_num p1 p2 p3 p4 p5 p6)), .second, .val (.long (lw_qq p1 p2 p3 p4 p5 p6)), .second, .val (.long (lw_r p1 p2 p3 p4 p5 p6)), .second, .unset, .unset, .unset, .unset, .unset, .unset, .unset, .unset] [(.int p1)])) _
    refine XT.i2l X8.here hx rfl (hb hby at_103) rfl ?_
    show Steps p.tables e below (T8.setTop (mkF m 104 #[.val (.int p1), .val (.int p2), .val (.int p3), .val (.int p4), .val (.long p5), .second, .val (.long p6), .second, .val (.int (lw_n p1 p2 p3 p4 p5 p6)), .val (.int (lw_k p1 p2 p3 p4 p5 p6)), .val (.ref ad1), .val (.ref ad3), .val (.long (lw_d p1 p2 p3 p4 p5 p6)), .second, .val (.long (lw_num p1 p2 p3 p4 p5 p6)), .second, .val (.long (lw_qq p1 p2 p3 p4 p5 p6)), .second, .val (.long (lw_r p1 p2 p3 p4 p5 p6)), .second, .unset, .unset, .unset, .unset, .unset, .unset, .unset, .unset] [(.long (Int32.toInt64 p1))])) _
    refine XT.lload X8.here hx rfl (hb hby at_104) rfl ?_
    show Steps p.tables e below (T8.setTop (mkF m 106 #[.val (.int p1), .val (.int p2), .val (.int p3), .val (.int p4), .val (.long p5), .second, .val (.long p6), .second, .val (.int (lw_n p1 p2 p3 p4 p5 p6)), .val (.int (lw_k p1 p2 p3 p4 p5 p6)), .val (.ref ad1), .val (.ref ad3), .val (.long (lw_d p1 p2 p3 p4 p5 p6)), .second, .val (.long (lw_num p1 p2 p3 p4 p5 p6)), .second, .val (.long (lw_qq p1 p2 p3 p4 p5 p6)), .second, .val (.long (lw_r p1 p2 p3 p4 p5 p6)), .second, .unset, .unset, .unset, .unset, .unset, .unset, .unset, .unset] [(.long (lw_qq p1 p2 p3 p4 p5 p6)), (.long (Int32.toInt64 p1))])) _
    refine XT.ladd X8.here hx rfl (hb hby at_106) rfl ?_
    show Steps p.tables e below (T8.setTop (mkF m 107 #[.val (.int p1), .val (.int p2), .val (.int p3), .val (.int p4), .val (.long p5), .second, .val (.long p6), .second, .val (.int (lw_n p1 p2 p3 p4 p5 p6)), .val (.int (lw_k p1 p2 p3 p4 p5 p6)), .val (.ref ad1), .val (.ref ad3), .val (.long (lw_d p1 p2 p3 p4 p5 p6)), .second, .val (.long (lw_num p1 p2 p3 p4 p5 p6)), .second, .val (.long (lw_qq p1 p2 p3 p4 p5 p6)), .second, .val (.long (lw_r p1 p2 p3 p4 p5 p6)), .second, .unset, .unset, .unset, .unset, .unset, .unset, .unset, .unset] [(.long ((Int32.toInt64 p1) + (lw_qq p1 p2 p3 p4 p5 p6)))])) _
    refine XT.lstore X8.here hx rfl (hb hby at_107) rfl (l' := #[.val (.int p1), .val (.int p2), .val (.int p3), .val (.int p4), .val (.long p5), .second, .val (.long p6), .second, .val (.int (lw_n p1 p2 p3 p4 p5 p6)), .val (.int (lw_k p1 p2 p3 p4 p5 p6)), .val (.ref ad1), .val (.ref ad3), .val (.long (lw_d p1 p2 p3 p4 p5 p6)), .second, .val (.long (lw_num p1 p2 p3 p4 p5 p6)), .second, .val (.long (lw_qq p1 p2 p3 p4 p5 p6)), .second, .val (.long (lw_r p1 p2 p3 p4 p5 p6)), .second, .val (.long (lw_lo p1 p2 p3 p4 p5 p6)), .second, .unset, .unset, .unset, .unset, .unset, .unset]) rfl ?_
    show Steps p.tables e below (T8.setTop (mkF m 109 #[.val (.int p1), .val (.int p2), .val (.int p3), .val (.int p4), .val (.long p5), .second, .val (.long p6), .second, .val (.int (lw_n p1 p2 p3 p4 p5 p6)), .val (.int (lw_k p1 p2 p3 p4 p5 p6)), .val (.ref ad1), .val (.ref ad3), .val (.long (lw_d p1 p2 p3 p4 p5 p6)), .second, .val (.long (lw_num p1 p2 p3 p4 p5 p6)), .second, .val (.long (lw_qq p1 p2 p3 p4 p5 p6)), .second, .val (.long (lw_r p1 p2 p3 p4 p5 p6)), .second, .val (.long (lw_lo p1 p2 p3 p4 p5 p6)), .second, .unset, .unset, .unset, .unset, .unset, .unset] [])) _
    refine XT.lload X8.here hx rfl (hb hby at_109) rfl ?_
    show Steps p.tables e below (T8.setTop (mkF m 111 #[.val (.int p1), .val (.int p2), .val (.int p3), .val (.int p4), .val (.long p5), .second, .val (.long p6), .second, .val (.int (lw_n p1 p2 p3 p4 p5 p6)), .val (.int (lw_k p1 p2 p3 p4 p5 p6)), .val (.ref ad1), .val (.ref ad3), .val (.long (lw_d p1 p2 p3 p4 p5 p6)), .second, .val (.long (lw_num p1 p2 p3 p4 p5 p6)), .second, .val (.long (lw_qq p1 p2 p3 p4 p5 p6)), .second, .val (.long (lw_r p1 p2 p3 p4 p5 p6)), .second, .val (.long (lw_lo p1 p2 p3 p4 p5 p6)), .second, .unset, .unset, .unset, .unset, .unset, .unset] [(.long (lw_r p1 p2 p3 p4 p5 p6))])) _
    refine XT.lconst X8.here hx rfl (hb hby at_111) ?_
    show Steps p.tables e below (T8.setTop (mkF m 112 #[.val (.int p1), .val (.int p2), .val (.int p3), .val (.int p4), .val (.long p5), .second, .val (.long p6), .second, .val (.int (lw_n p1 p2 p3 p4 p5 p6)), .val (.int (lw_k p1 p2 p3 p4 p5 p6)), .val (.ref ad1), .val (.ref ad3), .val (.long (lw_d p1 p2 p3 p4 p5 p6)), .second, .val (.long (lw_num p1 p2 p3 p4 p5 p6)), .second, .val (.long (lw_qq p1 p2 p3 p4 p5 p6)), .second, .val (.long (lw_r p1 p2 p3 p4 p5 p6)), .second, .val (.long (lw_lo p1 p2 p3 p4 p5 p6)), .second, .unset, .unset, .unset, .unset, .unset, .unset] [(.long (0 : Int64)), (.long (lw_r p1 p2 p3 p4 p5 p6))])) _
    refine XT.lcmp X8.here hx rfl (hb hby at_112) rfl ?_
    show Steps p.tables e below (T8.setTop (mkF m 113 #[.val (.int p1), .val (.int p2), .val (.int p3), .val (.int p4), .val (.long p5), .second, .val (.long p6), .second, .val (.int (lw_n p1 p2 p3 p4 p5 p6)), .val (.int (lw_k p1 p2 p3 p4 p5 p6)), .val (.ref ad1), .val (.ref ad3), .val (.long (lw_d p1 p2 p3 p4 p5 p6)), .second, .val (.long (lw_num p1 p2 p3 p4 p5 p6)), .second, .val (.long (lw_qq p1 p2 p3 p4 p5 p6)), .second, .val (.long (lw_r p1 p2 p3 p4 p5 p6)), .second, .val (.long (lw_lo p1 p2 p3 p4 p5 p6)), .second, .unset, .unset, .unset, .unset, .unset, .unset] [(.int (XT.cmpL (lw_r p1 p2 p3 p4 p5 p6) (0 : Int64)))])) _
    have sg16 : ∀ t, Steps p.tables e below (T8.setTop (mkF m 125 #[.val (.int p1), .val (.int p2), .val (.int p3), .val (.int p4), .val (.long p5), .second, .val (.long p6), .second, .val (.int (lw_n p1 p2 p3 p4 p5 p6)), .val (.int (lw_k p1 p2 p3 p4 p5 p6)), .val (.ref ad1), .val (.ref ad3), .val (.long (lw_d p1 p2 p3 p4 p5 p6)), .second, .val (.long (lw_num p1 p2 p3 p4 p5 p6)), .second, .val (.long (lw_qq p1 p2 p3 p4 p5 p6)), .second, .val (.long (lw_r p1 p2 p3 p4 p5 p6)), .second, .val (.long (lw_lo p1 p2 p3 p4 p5 p6)), .second, .unset, .unset, .unset, .unset, .unset, .unset] [(.long (lw_hi0 p1 p2 p3 p4 p5 p6))])) t → Steps p.tables e below (T8.setTop (mkF m 113 #[.val (.int p1), .val (.int p2), .val (.int p3), .val (.int p4), .val (.long p5), .second, .val (.long p6), .second, .val (.int (lw_n p1 p2 p3 p4 p5 p6)), .val (.int (lw_k p1 p2 p3 p4 p5 p6)), .val (.ref ad1), .val (.ref ad3), .val (.long (lw_d p1 p2 p3 p4 p5 p6)), .second, .val (.long (lw_num p1 p2 p3 p4 p5 p6)), .second, .val (.long (lw_qq p1 p2 p3 p4 p5 p6)), .second, .val (.long (lw_r p1 p2 p3 p4 p5 p6)), .second, .val (.long (lw_lo p1 p2 p3 p4 p5 p6)), .second, .unset, .unset, .unset, .unset, .unset, .unset] [(.int (XT.cmpL (lw_r p1 p2 p3 p4 p5 p6) (0 : Int64)))])) t := by
      intro t k
      by_cases c17 : (ifCond.holds .ne (XT.cmpL (lw_r p1 p2 p3 p4 p5 p6) (0 : Int64))) = true
      · refine XS.ifYes X8.here hx rfl (pc0 := 113) (pc' := 121) rfl (hb hby at_113) rfl c17 (by decide) (by decide) ?_
        show Steps p.tables e below (T8.setTop (mkF m 121 #[.val (.int p1), .val (.int p2), .val (.int p3), .val (.int p4), .val (.long p5), .second, .val (.long p6), .second, .val (.int (lw_n p1 p2 p3 p4 p5 p6)), .val (.int (lw_k p1 p2 p3 p4 p5 p6)), .val (.ref ad1), .val (.ref ad3), .val (.long (lw_d p1 p2 p3 p4 p5 p6)), .second, .val (.long (lw_num p1 p2 p3 p4 p5 p6)), .second, .val (.long (lw_qq p1 p2 p3 p4 p5 p6)), .second, .val (.long (lw_r p1 p2 p3 p4 p5 p6)), .second, .val (.long (lw_lo p1 p2 p3 p4 p5 p6)), .second, .unset, .unset, .unset, .unset, .unset, .unset] [])) t
        refine XT.lload X8.here hx rfl (hb hby at_121) rfl ?_
        show Steps p.tables e below (T8.setTop (mkF m 123 #[.val (.int p1), .val (.int p2), .val (.int p3), .val (.int p4), .val (.long p5), .second, .val (.long p6), .second, .val (.int (lw_n p1 p2 p3 p4 p5 p6)), .val (.int (lw_k p1 p2 p3 p4 p5 p6)), .val (.ref ad1), .val (.ref ad3), .val (.long (lw_d p1 p2 p3 p4 p5 p6)), .second, .val (.long (lw_num p1 p2 p3 p4 p5 p6)), .second, .val (.long (lw_qq p1 p2 p3 p4 p5 p6)), .second, .val (.long (lw_r p1 p2 p3 p4 p5 p6)), .second, .val (.long (lw_lo p1 p2 p3 p4 p5 p6)), .second, .unset, .unset, .unset, .unset, .unset, .unset] [(.long (lw_lo p1 p2 p3 p4 p5 p6))])) t
        refine XT.lconst X8.here hx rfl (hb hby at_123) ?_
        show Steps p.tables e below (T8.setTop (mkF m 124 #[.val (.int p1), .val (.int p2), .val (.int p3), .val (.int p4), .val (.long p5), .second, .val (.long p6), .second, .val (.int (lw_n p1 p2 p3 p4 p5 p6)), .val (.int (lw_k p1 p2 p3 p4 p5 p6)), .val (.ref ad1), .val (.ref ad3), .val (.long (lw_d p1 p2 p3 p4 p5 p6)), .second, .val (.long (lw_num p1 p2 p3 p4 p5 p6)), .second, .val (.long (lw_qq p1 p2 p3 p4 p5 p6)), .second, .val (.long (lw_r p1 p2 p3 p4 p5 p6)), .second, .val (.long (lw_lo p1 p2 p3 p4 p5 p6)), .second, .unset, .unset, .unset, .unset, .unset, .unset] [(.long (1 : Int64)), (.long (lw_lo p1 p2 p3 p4 p5 p6))])) t
        refine XT.ladd X8.here hx rfl (hb hby at_124) rfl ?_
        show Steps p.tables e below (T8.setTop (mkF m 125 #[.val (.int p1), .val (.int p2), .val (.int p3), .val (.int p4), .val (.long p5), .second, .val (.long p6), .second, .val (.int (lw_n p1 p2 p3 p4 p5 p6)), .val (.int (lw_k p1 p2 p3 p4 p5 p6)), .val (.ref ad1), .val (.ref ad3), .val (.long (lw_d p1 p2 p3 p4 p5 p6)), .second, .val (.long (lw_num p1 p2 p3 p4 p5 p6)), .second, .val (.long (lw_qq p1 p2 p3 p4 p5 p6)), .second, .val (.long (lw_r p1 p2 p3 p4 p5 p6)), .second, .val (.long (lw_lo p1 p2 p3 p4 p5 p6)), .second, .unset, .unset, .unset, .unset, .unset, .unset] [(.long ((lw_lo p1 p2 p3 p4 p5 p6) + (1 : Int64)))])) t
        have q : (lw_hi0 p1 p2 p3 p4 p5 p6) = ((lw_lo p1 p2 p3 p4 p5 p6) + (1 : Int64)) := by simp only [lw_hi0, c17, if_true, if_false, Bool.false_eq_true]; try rfl
        rw [q] at k
        clear q
        exact k
      · refine XS.ifNo X8.here hx rfl (hb hby at_113) rfl (Bool.eq_false_iff.mpr c17) ?_
        show Steps p.tables e below (T8.setTop (mkF m 116 #[.val (.int p1), .val (.int p2), .val (.int p3), .val (.int p4), .val (.long p5), .second, .val (.long p6), .second, .val (.int (lw_n p1 p2 p3 p4 p5 p6)), .val (.int (lw_k p1 p2 p3 p4 p5 p6)), .val (.ref ad1), .val (.ref ad3), .val (.long (lw_d p1 p2 p3 p4 p5 p6)), .second, .val (.long (lw_num p1 p2 p3 p4 p5 p6)), .second, .val (.long (lw_qq p1 p2 p3 p4 p5 p6)), .second, .val (.long (lw_r p1 p2 p3 p4 p5 p6)), .second, .val (.long (lw_lo p1 p2 p3 p4 p5 p6)), .second, .unset, .unset, .unset, .unset, .unset, .unset] [])) t
        refine XT.lload X8.here hx rfl (hb hby at_116) rfl ?_
        show Steps p.tables e below (T8.setTop (mkF m 118 #[.val (.int p1), .val (.int p2), .val (.int p3), .val (.int p4), .val (.long p5), .second, .val (.long p6), .second, .val (.int (lw_n p1 p2 p3 p4 p5 p6)), .val (.int (lw_k p1 p2 p3 p4 p5 p6)), .val (.ref ad1), .val (.ref ad3), .val (.long (lw_d p1 p2 p3 p4 p5 p6)), .second, .val (.long (lw_num p1 p2 p3 p4 p5 p6)), .second, .val (.long (lw_qq p1 p2 p3 p4 p5 p6)), .second, .val (.long (lw_r p1 p2 p3 p4 p5 p6)), .second, .val (.long (lw_lo p1 p2 p3 p4 p5 p6)), .second, .unset, .unset, .unset, .unset, .unset, .unset] [(.long (lw_lo p1 p2 p3 p4 p5 p6))])) t
        refine XS.goto X8.here hx rfl (pc0 := 118) (pc' := 125) rfl (hb hby at_118) (by decide) (by decide) ?_
        show Steps p.tables e below (T8.setTop (mkF m 125 #[.val (.int p1), .val (.int p2), .val (.int p3), .val (.int p4), .val (.long p5), .second, .val (.long p6), .second, .val (.int (lw_n p1 p2 p3 p4 p5 p6)), .val (.int (lw_k p1 p2 p3 p4 p5 p6)), .val (.ref ad1), .val (.ref ad3), .val (.long (lw_d p1 p2 p3 p4 p5 p6)), .second, .val (.long (lw_num p1 p2 p3 p4 p5 p6)), .second, .val (.long (lw_qq p1 p2 p3 p4 p5 p6)), .second, .val (.long (lw_r p1 p2 p3 p4 p5 p6)), .second, .val (.long (lw_lo p1 p2 p3 p4 p5 p6)), .second, .unset, .unset, .unset, .unset, .unset, .unset] [(.long (lw_lo p1 p2 p3 p4 p5 p6))])) t
        have q : (lw_hi0 p1 p2 p3 p4 p5 p6) = (lw_lo p1 p2 p3 p4 p5 p6) := by simp only [lw_hi0, c17, if_true, if_false, Bool.false_eq_true]; try rfl
        rw [q] at k
        clear q
        exact k
    refine sg16 _ ?_
    show Steps p.tables e below (T8.setTop (mkF m 125 #[.val (.int p1), .val (.int p2), .val (.int p3), .val (.int p4), .val (.long p5), .second, .val (.long p6), .second, .val (.int (lw_n p1 p2 p3 p4 p5 p6)), .val (.int (lw_k p1 p2 p3 p4 p5 p6)), .val (.ref ad1), .val (.ref ad3), .val (.long (lw_d p1 p2 p3 p4 p5 p6)), .second, .val (.long (lw_num p1 p2 p3 p4 p5 p6)), .second, .val (.long (lw_qq p1 p2 p3 p4 p5 p6)), .second, .val (.long (lw_r p1 p2 p3 p4 p5 p6)), .second, .val (.long (lw_lo p1 p2 p3 p4 p5 p6)), .second, .unset, .unset, .unset, .unset, .unset, .unset] [(.long (lw_hi0 p1 p2 p3 p4 p5 p6))])) _
    refine XT.lstore X8.here hx rfl (hb hby at_125) rfl (l' := #[.val (.int p1), .val (.int p2), .val (.int p3), .val (.int p4), .val (.long p5), .second, .val (.long p6), .second, .val (.int (lw_n p1 p2 p3 p4 p5 p6)), .val (.int (lw_k p1 p2 p3 p4 p5 p6)), .val (.ref ad1), .val (.ref ad3), .val (.long (lw_d p1 p2 p3 p4 p5 p6)), .second, .val (.long (lw_num p1 p2 p3 p4 p5 p6)), .second, .val (.long (lw_qq p1 p2 p3 p4 p5 p6)), .second, .val (.long (lw_r p1 p2 p3 p4 p5 p6)), .second, .val (.long (lw_lo p1 p2 p3 p4 p5 p6)), .second, .val (.long (lw_hi p1 p2 p3 p4 p5 p6)), .second, .unset, .unset, .unset, .unset]) rfl ?_
    show Steps p.tables e below (T8.setTop (mkF m 127 #[.val (.int p1), .val (.int p2), .val (.int p3), .val (.int p4), .val (.long p5), .second, .val (.long p6), .second, .val (.int (lw_n p1 p2 p3 p4 p5 p6)), .val (.int (lw_k p1 p2 p3 p4 p5 p6)), .val (.ref ad1), .val (.ref ad3), .val (.long (lw_d p1 p2 p3 p4 p5 p6)), .second, .val (.long (lw_num p1 p2 p3 p4 p5 p6)), .second, .val (.long (lw_qq p1 p2 p3 p4 p5 p6)), .second, .val (.long (lw_r p1 p2 p3 p4 p5 p6)), .second, .val (.long (lw_lo p1 p2 p3 p4 p5 p6)), .second, .val (.long (lw_hi p1 p2 p3 p4 p5 p6)), .second, .unset, .unset, .unset, .unset] [])) _
    refine XS.aload X8.here hx rfl (hb hby at_127) rfl rfl ?_
    show Steps p.tables e below (T8.setTop (mkF m 129 #[.val (.int p1), .val (.int p2), .val (.int p3), .val (.int p4), .val (.long p5), .second, .val (.long p6), .second, .val (.int (lw_n p1 p2 p3 p4 p5 p6)), .val (.int (lw_k p1 p2 p3 p4 p5 p6)), .val (.ref ad1), .val (.ref ad3), .val (.long (lw_d p1 p2 p3 p4 p5 p6)), .second, .val (.long (lw_num p1 p2 p3 p4 p5 p6)), .second, .val (.long (lw_qq p1 p2 p3 p4 p5 p6)), .second, .val (.long (lw_r p1 p2 p3 p4 p5 p6)), .second, .val (.long (lw_lo p1 p2 p3 p4 p5 p6)), .second, .val (.long (lw_hi p1 p2 p3 p4 p5 p6)), .second, .unset, .unset, .unset, .unset] [(.ref ad1)])) _
    refine XS.iload X8.here hx rfl (hb hby at_129) rfl ?_
    show Steps p.tables e below (T8.setTop (mkF m 131 #[.val (.int p1), .val (.int p2), .val (.int p3), .val (.int p4), .val (.long p5), .second, .val (.long p6), .second, .val (.int (lw_n p1 p2 p3 p4 p5 p6)), .val (.int (lw_k p1 p2 p3 p4 p5 p6)), .val (.ref ad1), .val (.ref ad3), .val (.long (lw_d p1 p2 p3 p4 p5 p6)), .second, .val (.long (lw_num p1 p2 p3 p4 p5 p6)), .second, .val (.long (lw_qq p1 p2 p3 p4 p5 p6)), .second, .val (.long (lw_r p1 p2 p3 p4 p5 p6)), .second, .val (.long (lw_lo p1 p2 p3 p4 p5 p6)), .second, .val (.long (lw_hi p1 p2 p3 p4 p5 p6)), .second, .unset, .unset, .unset, .unset] [(.int (lw_k p1 p2 p3 p4 p5 p6)), (.ref ad1)])) _
    refine st18.trans ?_
    show Steps p.tables e below (T18.setTop (mkF m 134 #[.val (.int p1), .val (.int p2), .val (.int p3), .val (.int p4), .val (.long p5), .second, .val (.long p6), .second, .val (.int (lw_n p1 p2 p3 p4 p5 p6)), .val (.int (lw_k p1 p2 p3 p4 p5 p6)), .val (.ref ad1), .val (.ref ad3), .val (.long (lw_d p1 p2 p3 p4 p5 p6)), .second, .val (.long (lw_num p1 p2 p3 p4 p5 p6)), .second, .val (.long (lw_qq p1 p2 p3 p4 p5 p6)), .second, .val (.long (lw_r p1 p2 p3 p4 p5 p6)), .second, .val (.long (lw_lo p1 p2 p3 p4 p5 p6)), .second, .val (.long (lw_hi p1 p2 p3 p4 p5 p6)), .second, .unset, .unset, .unset, .unset] [(.double (bd_res (lw_k p1 p2 p3 p4 p5 p6) (FP.i2d p1) (FP.i2d p2) (lw_n p1 p2 p3 p4 p5 p6)))])) _
    refine XS.dstore X18.here hx rfl (hb hby at_134) rfl (l' := #[.val (.int p1), .val (.int p2), .val (.int p3), .val (.int p4), .val (.long p5), .second, .val (.long p6), .second, .val (.int (lw_n p1 p2 p3 p4 p5 p6)), .val (.int (lw_k p1 p2 p3 p4 p5 p6)), .val (.ref ad1), .val (.ref ad3), .val (.long (lw_d p1 p2 p3 p4 p5 p6)), .second, .val (.long (lw_num p1 p2 p3 p4 p5 p6)), .second, .val (.long (lw_qq p1 p2 p3 p4 p5 p6)), .second, .val (.long (lw_r p1 p2 p3 p4 p5 p6)), .second, .val (.long (lw_lo p1 p2 p3 p4 p5 p6)), .second, .val (.long (lw_hi p1 p2 p3 p4 p5 p6)), .second, .val (.double (lw_got p1 p2 p3 p4 p5 p6)), .second, .unset, .unset]) rfl ?_
    show Steps p.tables e below (T18.setTop (mkF m 136 #[.val (.int p1), .val (.int p2), .val (.int p3), .val (.int p4), .val (.long p5), .second, .val (.long p6), .second, .val (.int (lw_n p1 p2 p3 p4 p5 p6)), .val (.int (lw_k p1 p2 p3 p4 p5 p6)), .val (.ref ad1), .val (.ref ad3), .val (.long (lw_d p1 p2 p3 p4 p5 p6)), .second, .val (.long (lw_num p1 p2 p3 p4 p5 p6)), .second, .val (.long (lw_qq p1 p2 p3 p4 p5 p6)), .second, .val (.long (lw_r p1 p2 p3 p4 p5 p6)), .second, .val (.long (lw_lo p1 p2 p3 p4 p5 p6)), .second, .val (.long (lw_hi p1 p2 p3 p4 p5 p6)), .second, .val (.double (lw_got p1 p2 p3 p4 p5 p6)), .second, .unset, .unset] [])) _
    refine XT.lload X18.here hx rfl (hb hby at_136) rfl ?_
    show Steps p.tables e below (T18.setTop (mkF m 138 #[.val (.int p1), .val (.int p2), .val (.int p3), .val (.int p4), .val (.long p5), .second, .val (.long p6), .second, .val (.int (lw_n p1 p2 p3 p4 p5 p6)), .val (.int (lw_k p1 p2 p3 p4 p5 p6)), .val (.ref ad1), .val (.ref ad3), .val (.long (lw_d p1 p2 p3 p4 p5 p6)), .second, .val (.long (lw_num p1 p2 p3 p4 p5 p6)), .second, .val (.long (lw_qq p1 p2 p3 p4 p5 p6)), .second, .val (.long (lw_r p1 p2 p3 p4 p5 p6)), .second, .val (.long (lw_lo p1 p2 p3 p4 p5 p6)), .second, .val (.long (lw_hi p1 p2 p3 p4 p5 p6)), .second, .val (.double (lw_got p1 p2 p3 p4 p5 p6)), .second, .unset, .unset] [(.long (lw_lo p1 p2 p3 p4 p5 p6))])) _
    refine XS.l2dS X18.here hx rfl (hb hby at_138) rfl rfl ?_
    show Steps p.tables e below (T18.setTop (mkF m 139 #[.val (.int p1), .val (.int p2), .val (.int p3), .val (.int p4), .val (.long p5), .second, .val (.long p6), .second, .val (.int (lw_n p1 p2 p3 p4 p5 p6)), .val (.int (lw_k p1 p2 p3 p4 p5 p6)), .val (.ref ad1), .val (.ref ad3), .val (.long (lw_d p1 p2 p3 p4 p5 p6)), .second, .val (.long (lw_num p1 p2 p3 p4 p5 p6)), .second, .val (.long (lw_qq p1 p2 p3 p4 p5 p6)), .second, .val (.long (lw_r p1 p2 p3 p4 p5 p6)), .second, .val (.long (lw_lo p1 p2 p3 p4 p5 p6)), .second, .val (.long (lw_hi p1 p2 p3 p4 p5 p6)), .second, .val (.double (lw_got p1 p2 p3 p4 p5 p6)), .second, .unset, .unset] [(.double (FP.l2d (lw_lo p1 p2 p3 p4 p5 p6)))])) _
    refine XS.dload X18.here hx rfl (hb hby at_139) rfl ?_
    show Steps p.tables e below (T18.setTop (mkF m 141 #[.val (.int p1), .val (.int p2), .val (.int p3), .val (.int p4), .val (.long p5), .second, .val (.long p6), .second, .val (.int (lw_n p1 p2 p3 p4 p5 p6)), .val (.int (lw_k p1 p2 p3 p4 p5 p6)), .val (.ref ad1), .val (.ref ad3), .val (.long (lw_d p1 p2 p3 p4 p5 p6)), .second, .val (.long (lw_num p1 p2 p3 p4 p5 p6)), .second, .val (.long (lw_qq p1 p2 p3 p4 p5 p6)), .second, .val (.long (lw_r p1 p2 p3 p4 p5 p6)), .second, .val (.long (lw_lo p1 p2 p3 p4 p5 p6)), .second, .val (.long (lw_hi p1 p2 p3 p4 p5 p6)), .second, .val (.double (lw_got p1 p2 p3 p4 p5 p6)), .second, .unset, .unset] [(.double (lw_got p1 p2 p3 p4 p5 p6)), (.double (FP.l2d (lw_lo p1 p2 p3 p4 p5 p6)))])) _
    refine XS.dcmpS X18.here hx rfl (hb hby at_141) rfl rfl ?_
    show Steps p.tables e below (T18.setTop (mkF m 142 #[.val (.int p1), .val (.int p2), .val (.int p3), .val (.int p4), .val (.long p5), .second, .val (.long p6), .second, .val (.int (lw_n p1 p2 p3 p4 p5 p6)), .val (.int (lw_k p1 p2 p3 p4 p5 p6)), .val (.ref ad1), .val (.ref ad3), .val (.long (lw_d p1 p2 p3 p4 p5 p6)), .second, .val (.long (lw_num p1 p2 p3 p4 p5 p6)), .second, .val (.long (lw_qq p1 p2 p3 p4 p5 p6)), .second, .val (.long (lw_r p1 p2 p3 p4 p5 p6)), .second, .val (.long (lw_lo p1 p2 p3 p4 p5 p6)), .second, .val (.long (lw_hi p1 p2 p3 p4 p5 p6)), .second, .val (.double (lw_got p1 p2 p3 p4 p5 p6)), .second, .unset, .unset] [(.int (cmpValue (FP.dcmp (FP.l2d (lw_lo p1 p2 p3 p4 p5 p6)) (lw_got p1 p2 p3 p4 p5 p6)) .g))])) _
    refine XS.ifNo X18.here hx rfl (hb hby at_142) rfl (own_e1 p1 p2 p3 p4 p5 p6) ?_
    show Steps p.tables e below (T18.setTop (mkF m 145 #[.val (.int p1), .val (.int p2), .val (.int p3), .val (.int p4), .val (.long p5), .second, .val (.long p6), .second, .val (.int (lw_n p1 p2 p3 p4 p5 p6)), .val (.int (lw_k p1 p2 p3 p4 p5 p6)), .val (.ref ad1), .val (.ref ad3), .val (.long (lw_d p1 p2 p3 p4 p5 p6)), .second, .val (.long (lw_num p1 p2 p3 p4 p5 p6)), .second, .val (.long (lw_qq p1 p2 p3 p4 p5 p6)), .second, .val (.long (lw_r p1 p2 p3 p4 p5 p6)), .second, .val (.long (lw_lo p1 p2 p3 p4 p5 p6)), .second, .val (.long (lw_hi p1 p2 p3 p4 p5 p6)), .second, .val (.double (lw_got p1 p2 p3 p4 p5 p6)), .second, .unset, .unset] [])) _
    refine XS.dload X18.here hx rfl (hb hby at_145) rfl ?_
    show Steps p.tables e below (T18.setTop (mkF m 147 #[.val (.int p1), .val (.int p2), .val (.int p3), .val (.int p4), .val (.long p5), .second, .val (.long p6), .second, .val (.int (lw_n p1 p2 p3 p4 p5 p6)), .val (.int (lw_k p1 p2 p3 p4 p5 p6)), .val (.ref ad1), .val (.ref ad3), .val (.long (lw_d p1 p2 p3 p4 p5 p6)), .second, .val (.long (lw_num p1 p2 p3 p4 p5 p6)), .second, .val (.long (lw_qq p1 p2 p3 p4 p5 p6)), .second, .val (.long (lw_r p1 p2 p3 p4 p5 p6)), .second, .val (.long (lw_lo p1 p2 p3 p4 p5 p6)), .second, .val (.long (lw_hi p1 p2 p3 p4 p5 p6)), .second, .val (.double (lw_got p1 p2 p3 p4 p5 p6)), .second, .unset, .unset] [(.double (lw_got p1 p2 p3 p4 p5 p6))])) _
    refine XT.lload X18.here hx rfl (hb hby at_147) rfl ?_
    show Steps p.tables e below (T18.setTop (mkF m 149 #[.val (.int p1), .val (.int p2), .val (.int p3), .val (.int p4), .val (.long p5), .second, .val (.long p6), .second, .val (.int (lw_n p1 p2 p3 p4 p5 p6)), .val (.int (lw_k p1 p2 p3 p4 p5 p6)), .val (.ref ad1), .val (.ref ad3), .val (.long (lw_d p1 p2 p3 p4 p5 p6)), .second, .val (.long (lw_num p1 p2 p3 p4 p5 p6)), .second, .val (.long (lw_qq p1 p2 p3 p4 p5 p6)), .second, .val (.long (lw_r p1 p2 p3 p4 p5 p6)), .second, .val (.long (lw_lo p1 p2 p3 p4 p5 p6)), .second, .val (.long (lw_hi p1 p2 p3 p4 p5 p6)), .second, .val (.double (lw_got p1 p2 p3 p4 p5 p6)), .second, .unset, .unset] [(.long (lw_hi p1 p2 p3 p4 p5 p6)), (.double (lw_got p1 p2 p3 p4 p5 p6))])) _
    refine XS.l2dS X18.here hx rfl (hb hby at_149) rfl rfl ?_
    show Steps p.tables e below (T18.setTop (mkF m 150 #[.val (.int p1), .val (.int p2), .val (.int p3), .val (.int p4), .val (.long p5), .second, .val (.long p6), .second, .val (.int (lw_n p1 p2 p3 p4 p5 p6)), .val (.int (lw_k p1 p2 p3 p4 p5 p6)), .val (.ref ad1), .val (.ref ad3), .val (.long (lw_d p1 p2 p3 p4 p5 p6)), .second, .val (.long (lw_num p1 p2 p3 p4 p5 p6)), .second, .val (.long (lw_qq p1 p2 p3 p4 p5 p6)), .second, .val (.long (lw_r p1 p2 p3 p4 p5 p6)), .second, .val (.long (lw_lo p1 p2 p3 p4 p5 p6)), .second, .val (.long (lw_hi p1 p2 p3 p4 p5 p6)), .second, .val (.double (lw_got p1 p2 p3 p4 p5 p6)), .second, .unset, .unset] [(.double (FP.l2d (lw_hi p1 p2 p3 p4 p5 p6))), (.double (lw_got p1 p2 p3 p4 p5 p6))])) _
    refine XS.dcmpS X18.here hx rfl (hb hby at_150) rfl rfl ?_
    show Steps p.tables e below (T18.setTop (mkF m 151 #[.val (.int p1), .val (.int p2), .val (.int p3), .val (.int p4), .val (.long p5), .second, .val (.long p6), .second, .val (.int (lw_n p1 p2 p3 p4 p5 p6)), .val (.int (lw_k p1 p2 p3 p4 p5 p6)), .val (.ref ad1), .val (.ref ad3), .val (.long (lw_d p1 p2 p3 p4 p5 p6)), .second, .val (.long (lw_num p1 p2 p3 p4 p5 p6)), .second, .val (.long (lw_qq p1 p2 p3 p4 p5 p6)), .second, .val (.long (lw_r p1 p2 p3 p4 p5 p6)), .second, .val (.long (lw_lo p1 p2 p3 p4 p5 p6)), .second, .val (.long (lw_hi p1 p2 p3 p4 p5 p6)), .second, .val (.double (lw_got p1 p2 p3 p4 p5 p6)), .second, .unset, .unset] [(.int (cmpValue (FP.dcmp (lw_got p1 p2 p3 p4 p5 p6) (FP.l2d (lw_hi p1 p2 p3 p4 p5 p6))) .g))])) _
    refine XS.ifNo X18.here hx rfl (hb hby at_151) rfl (own_e2 p1 p2 p3 p4 p5 p6) ?_
    show Steps p.tables e below (T18.setTop (mkF m 154 #[.val (.int p1), .val (.int p2), .val (.int p3), .val (.int p4), .val (.long p5), .second, .val (.long p6), .second, .val (.int (lw_n p1 p2 p3 p4 p5 p6)), .val (.int (lw_k p1 p2 p3 p4 p5 p6)), .val (.ref ad1), .val (.ref ad3), .val (.long (lw_d p1 p2 p3 p4 p5 p6)), .second, .val (.long (lw_num p1 p2 p3 p4 p5 p6)), .second, .val (.long (lw_qq p1 p2 p3 p4 p5 p6)), .second, .val (.long (lw_r p1 p2 p3 p4 p5 p6)), .second, .val (.long (lw_lo p1 p2 p3 p4 p5 p6)), .second, .val (.long (lw_hi p1 p2 p3 p4 p5 p6)), .second, .val (.double (lw_got p1 p2 p3 p4 p5 p6)), .second, .unset, .unset] [])) _
    refine XS.iconst X18.here hx rfl (hb hby at_154) ?_
    show Steps p.tables e below (T18.setTop (mkF m 155 #[.val (.int p1), .val (.int p2), .val (.int p3), .val (.int p4), .val (.long p5), .second, .val (.long p6), .second, .val (.int (lw_n p1 p2 p3 p4 p5 p6)), .val (.int (lw_k p1 p2 p3 p4 p5 p6)), .val (.ref ad1), .val (.ref ad3), .val (.long (lw_d p1 p2 p3 p4 p5 p6)), .second, .val (.long (lw_num p1 p2 p3 p4 p5 p6)), .second, .val (.long (lw_qq p1 p2 p3 p4 p5 p6)), .second, .val (.long (lw_r p1 p2 p3 p4 p5 p6)), .second, .val (.long (lw_lo p1 p2 p3 p4 p5 p6)), .second, .val (.long (lw_hi p1 p2 p3 p4 p5 p6)), .second, .val (.double (lw_got p1 p2 p3 p4 p5 p6)), .second, .unset, .unset] [(.int (1 : Int32))])) _
    refine XS.goto X18.here hx rfl (pc0 := 155) (pc' := 159) rfl (hb hby at_155) (by decide) (by decide) ?_
    show Steps p.tables e below (T18.setTop (mkF m 159 #[.val (.int p1), .val (.int p2), .val (.int p3), .val (.int p4), .val (.long p5), .second, .val (.long p6), .second, .val (.int (lw_n p1 p2 p3 p4 p5 p6)), .val (.int (lw_k p1 p2 p3 p4 p5 p6)), .val (.ref ad1), .val (.ref ad3), .val (.long (lw_d p1 p2 p3 p4 p5 p6)), .second, .val (.long (lw_num p1 p2 p3 p4 p5 p6)), .second, .val (.long (lw_qq p1 p2 p3 p4 p5 p6)), .second, .val (.long (lw_r p1 p2 p3 p4 p5 p6)), .second, .val (.long (lw_lo p1 p2 p3 p4 p5 p6)), .second, .val (.long (lw_hi p1 p2 p3 p4 p5 p6)), .second, .val (.double (lw_got p1 p2 p3 p4 p5 p6)), .second, .unset, .unset] [(.int (1 : Int32))])) _
    refine XS.istore X18.here hx rfl (hb hby at_159) rfl (l' := #[.val (.int p1), .val (.int p2), .val (.int p3), .val (.int p4), .val (.long p5), .second, .val (.long p6), .second, .val (.int (lw_n p1 p2 p3 p4 p5 p6)), .val (.int (lw_k p1 p2 p3 p4 p5 p6)), .val (.ref ad1), .val (.ref ad3), .val (.long (lw_d p1 p2 p3 p4 p5 p6)), .second, .val (.long (lw_num p1 p2 p3 p4 p5 p6)), .second, .val (.long (lw_qq p1 p2 p3 p4 p5 p6)), .second, .val (.long (lw_r p1 p2 p3 p4 p5 p6)), .second, .val (.long (lw_lo p1 p2 p3 p4 p5 p6)), .second, .val (.long (lw_hi p1 p2 p3 p4 p5 p6)), .second, .val (.double (lw_got p1 p2 p3 p4 p5 p6)), .second, .val (.int (1 : Int32)), .unset]) rfl ?_
    show Steps p.tables e below (T18.setTop (mkF m 161 #[.val (.int p1), .val (.int p2), .val (.int p3), .val (.int p4), .val (.long p5), .second, .val (.long p6), .second, .val (.int (lw_n p1 p2 p3 p4 p5 p6)), .val (.int (lw_k p1 p2 p3 p4 p5 p6)), .val (.ref ad1), .val (.ref ad3), .val (.long (lw_d p1 p2 p3 p4 p5 p6)), .second, .val (.long (lw_num p1 p2 p3 p4 p5 p6)), .second, .val (.long (lw_qq p1 p2 p3 p4 p5 p6)), .second, .val (.long (lw_r p1 p2 p3 p4 p5 p6)), .second, .val (.long (lw_lo p1 p2 p3 p4 p5 p6)), .second, .val (.long (lw_hi p1 p2 p3 p4 p5 p6)), .second, .val (.double (lw_got p1 p2 p3 p4 p5 p6)), .second, .val (.int (1 : Int32)), .unset] [])) _
    refine XS.aload X18.here hx rfl (hb hby at_161) rfl rfl ?_
    show Steps p.tables e below (T18.setTop (mkF m 163 #[.val (.int p1), .val (.int p2), .val (.int p3), .val (.int p4), .val (.long p5), .second, .val (.long p6), .second, .val (.int (lw_n p1 p2 p3 p4 p5 p6)), .val (.int (lw_k p1 p2 p3 p4 p5 p6)), .val (.ref ad1), .val (.ref ad3), .val (.long (lw_d p1 p2 p3 p4 p5 p6)), .second, .val (.long (lw_num p1 p2 p3 p4 p5 p6)), .second, .val (.long (lw_qq p1 p2 p3 p4 p5 p6)), .second, .val (.long (lw_r p1 p2 p3 p4 p5 p6)), .second, .val (.long (lw_lo p1 p2 p3 p4 p5 p6)), .second, .val (.long (lw_hi p1 p2 p3 p4 p5 p6)), .second, .val (.double (lw_got p1 p2 p3 p4 p5 p6)), .second, .val (.int (1 : Int32)), .unset] [(.ref ad3)])) _
    refine XS.iload X18.here hx rfl (hb hby at_163) rfl ?_
    show Steps p.tables e below (T18.setTop (mkF m 165 #[.val (.int p1), .val (.int p2), .val (.int p3), .val (.int p4), .val (.long p5), .second, .val (.long p6), .second, .val (.int (lw_n p1 p2 p3 p4 p5 p6)), .val (.int (lw_k p1 p2 p3 p4 p5 p6)), .val (.ref ad1), .val (.ref ad3), .val (.long (lw_d p1 p2 p3 p4 p5 p6)), .second, .val (.long (lw_num p1 p2 p3 p4 p5 p6)), .second, .val (.long (lw_qq p1 p2 p3 p4 p5 p6)), .second, .val (.long (lw_r p1 p2 p3 p4 p5 p6)), .second, .val (.long (lw_lo p1 p2 p3 p4 p5 p6)), .second, .val (.long (lw_hi p1 p2 p3 p4 p5 p6)), .second, .val (.double (lw_got p1 p2 p3 p4 p5 p6)), .second, .val (.int (1 : Int32)), .unset] [(.int (lw_n p1 p2 p3 p4 p5 p6)), (.ref ad3)])) _
    refine st19.trans ?_
    show Steps p.tables e below (T19.setTop (mkF m 168 #[.val (.int p1), .val (.int p2), .val (.int p3), .val (.int p4), .val (.long p5), .second, .val (.long p6), .second, .val (.int (lw_n p1 p2 p3 p4 p5 p6)), .val (.int (lw_k p1 p2 p3 p4 p5 p6)), .val (.ref ad1), .val (.ref ad3), .val (.long (lw_d p1 p2 p3 p4 p5 p6)), .second, .val (.long (lw_num p1 p2 p3 p4 p5 p6)), .second, .val (.long (lw_qq p1 p2 p3 p4 p5 p6)), .second, .val (.long (lw_r p1 p2 p3 p4 p5 p6)), .second, .val (.long (lw_lo p1 p2 p3 p4 p5 p6)), .second, .val (.long (lw_hi p1 p2 p3 p4 p5 p6)), .second, .val (.double (lw_got p1 p2 p3 p4 p5 p6)), .second, .val (.int (1 : Int32)), .unset] [(.double (FP.l2d p6))])) _
    refine XT.lload X19.here hx rfl (hb hby at_168) rfl ?_
    show Steps p.tables e below (T19.setTop (mkF m 170 #[.val (.int p1), .val (.int p2), .val (.int p3), .val (.int p4), .val (.long p5), .second, .val (.long p6), .second, .val (.int (lw_n p1 p2 p3 p4 p5 p6)), .val (.int (lw_k p1 p2 p3 p4 p5 p6)), .val (.ref ad1), .val (.ref ad3), .val (.long (lw_d p1 p2 p3 p4 p5 p6)), .second, .val (.long (lw_num p1 p2 p3 p4 p5 p6)), .second, .val (.long (lw_qq p1 p2 p3 p4 p5 p6)), .second, .val (.long (lw_r p1 p2 p3 p4 p5 p6)), .second, .val (.long (lw_lo p1 p2 p3 p4 p5 p6)), .second, .val (.long (lw_hi p1 p2 p3 p4 p5 p6)), .second, .val (.double (lw_got p1 p2 p3 p4 p5 p6)), .second, .val (.int (1 : Int32)), .unset] [(.long p6), (.double (FP.l2d p6))])) _
    refine XS.l2dS X19.here hx rfl (hb hby at_170) rfl rfl ?_
    show Steps p.tables e below (T19.setTop (mkF m 171 #[.val (.int p1), .val (.int p2), .val (.int p3), .val (.int p4), .val (.long p5), .second, .val (.long p6), .second, .val (.int (lw_n p1 p2 p3 p4 p5 p6)), .val (.int (lw_k p1 p2 p3 p4 p5 p6)), .val (.ref ad1), .val (.ref ad3), .val (.long (lw_d p1 p2 p3 p4 p5 p6)), .second, .val (.long (lw_num p1 p2 p3 p4 p5 p6)), .second, .val (.long (lw_qq p1 p2 p3 p4 p5 p6)), .second, .val (.long (lw_r p1 p2 p3 p4 p5 p6)), .second, .val (.long (lw_lo p1 p2 p3 p4 p5 p6)), .second, .val (.long (lw_hi p1 p2 p3 p4 p5 p6)), .second, .val (.double (lw_got p1 p2 p3 p4 p5 p6)), .second, .val (.int (1 : Int32)), .unset] [(.double (FP.l2d p6)), (.double (FP.l2d p6))])) _
    refine XS.dcmpS X19.here hx rfl (hb hby at_171) rfl rfl ?_
    show Steps p.tables e below (T19.setTop (mkF m 172 #[.val (.int p1), .val (.int p2), .val (.int p3), .val (.int p4), .val (.long p5), .second, .val (.long p6), .second, .val (.int (lw_n p1 p2 p3 p4 p5 p6)), .val (.int (lw_k p1 p2 p3 p4 p5 p6)), .val (.ref ad1), .val (.ref ad3), .val (.long (lw_d p1 p2 p3 p4 p5 p6)), .second, .val (.long (lw_num p1 p2 p3 p4 p5 p6)), .second, .val (.long (lw_qq p1 p2 p3 p4 p5 p6)), .second, .val (.long (lw_r p1 p2 p3 p4 p5 p6)), .second, .val (.long (lw_lo p1 p2 p3 p4 p5 p6)), .second, .val (.long (lw_hi p1 p2 p3 p4 p5 p6)), .second, .val (.double (lw_got p1 p2 p3 p4 p5 p6)), .second, .val (.int (1 : Int32)), .unset] [(.int (cmpValue (FP.dcmp (FP.l2d p6) (FP.l2d p6)) .l))])) _
    refine XS.ifNo X19.here hx rfl (hb hby at_172) rfl (own_dd (Jvm.Free.Fl.l2d_fin _).noNaN .l) ?_
    show Steps p.tables e below (T19.setTop (mkF m 175 #[.val (.int p1), .val (.int p2), .val (.int p3), .val (.int p4), .val (.long p5), .second, .val (.long p6), .second, .val (.int (lw_n p1 p2 p3 p4 p5 p6)), .val (.int (lw_k p1 p2 p3 p4 p5 p6)), .val (.ref ad1), .val (.ref ad3), .val (.long (lw_d p1 p2 p3 p4 p5 p6)), .second, .val (.long (lw_num p1 p2 p3 p4 p5 p6)), .second, .val (.long (lw_qq p1 p2 p3 p4 p5 p6)), .second, .val (.long (lw_r p1 p2 p3 p4 p5 p6)), .second, .val (.long (lw_lo p1 p2 p3 p4 p5 p6)), .second, .val (.long (lw_hi p1 p2 p3 p4 p5 p6)), .second, .val (.double (lw_got p1 p2 p3 p4 p5 p6)), .second, .val (.int (1 : Int32)), .unset] [])) _
    refine XS.aload X19.here hx rfl (hb hby at_175) rfl rfl ?_
    show Steps p.tables e below (T19.setTop (mkF m 177 #[.val (.int p1), .val (.int p2), .val (.int p3), .val (.int p4), .val (.long p5), .second, .val (.long p6), .second, .val (.int (lw_n p1 p2 p3 p4 p5 p6)), .val (.int (lw_k p1 p2 p3 p4 p5 p6)), .val (.ref ad1), .val (.ref ad3), .val (.long (lw_d p1 p2 p3 p4 p5 p6)), .second, .val (.long (lw_num p1 p2 p3 p4 p5 p6)), .second, .val (.long (lw_qq p1 p2 p3 p4 p5 p6)), .second, .val (.long (lw_r p1 p2 p3 p4 p5 p6)), .second, .val (.long (lw_lo p1 p2 p3 p4 p5 p6)), .second, .val (.long (lw_hi p1 p2 p3 p4 p5 p6)), .second, .val (.double (lw_got p1 p2 p3 p4 p5 p6)), .second, .val (.int (1 : Int32)), .unset] [(.ref ad3)])) _
    refine XS.iconst X19.here hx rfl (hb hby at_177) ?_
    show Steps p.tables e below (T19.setTop (mkF m 178 #[.val (.int p1), .val (.int p2), .val (.int p3), .val (.int p4), .val (.long p5), .second, .val (.long p6), .second, .val (.int (lw_n p1 p2 p3 p4 p5 p6)), .val (.int (lw_k p1 p2 p3 p4 p5 p6)), .val (.ref ad1), .val (.ref ad3), .val (.long (lw_d p1 p2 p3 p4 p5 p6)), .second, .val (.long (lw_num p1 p2 p3 p4 p5 p6)), .second, .val (.long (lw_qq p1 p2 p3 p4 p5 p6)), .second, .val (.long (lw_r p1 p2 p3 p4 p5 p6)), .second, .val (.long (lw_lo p1 p2 p3 p4 p5 p6)), .second, .val (.long (lw_hi p1 p2 p3 p4 p5 p6)), .second, .val (.double (lw_got p1 p2 p3 p4 p5 p6)), .second, .val (.int (1 : Int32)), .unset] [(.int (0 : Int32)), (.ref ad3)])) _
    refine st20.trans ?_
    show Steps p.tables e below (T20.setTop (mkF m 181 #[.val (.int p1), .val (.int p2), .val (.int p3), .val (.int p4), .val (.long p5), .second, .val (.long p6), .second, .val (.int (lw_n p1 p2 p3 p4 p5 p6)), .val (.int (lw_k p1 p2 p3 p4 p5 p6)), .val (.ref ad1), .val (.ref ad3), .val (.long (lw_d p1 p2 p3 p4 p5 p6)), .second, .val (.long (lw_num p1 p2 p3 p4 p5 p6)), .second, .val (.long (lw_qq p1 p2 p3 p4 p5 p6)), .second, .val (.long (lw_r p1 p2 p3 p4 p5 p6)), .second, .val (.long (lw_lo p1 p2 p3 p4 p5 p6)), .second, .val (.long (lw_hi p1 p2 p3 p4 p5 p6)), .second, .val (.double (lw_got p1 p2 p3 p4 p5 p6)), .second, .val (.int (1 : Int32)), .unset] [(.double (FP.dadd (FP.l2d p5) (FP.ddiv (FP.dmul (FP.dsub (FP.l2d p6) (FP.l2d p5)) (FP.i2d (0 : Int32))) (FP.i2d (lw_n p1 p2 p3 p4 p5 p6)))))])) _
    refine XT.lload X20.here hx rfl (hb hby at_181) rfl ?_
    show Steps p.tables e below (T20.setTop (mkF m 183 #[.val (.int p1), .val (.int p2), .val (.int p3), .val (.int p4), .val (.long p5), .second, .val (.long p6), .second, .val (.int (lw_n p1 p2 p3 p4 p5 p6)), .val (.int (lw_k p1 p2 p3 p4 p5 p6)), .val (.ref ad1), .val (.ref ad3), .val (.long (lw_d p1 p2 p3 p4 p5 p6)), .second, .val (.long (lw_num p1 p2 p3 p4 p5 p6)), .second, .val (.long (lw_qq p1 p2 p3 p4 p5 p6)), .second, .val (.long (lw_r p1 p2 p3 p4 p5 p6)), .second, .val (.long (lw_lo p1 p2 p3 p4 p5 p6)), .second, .val (.long (lw_hi p1 p2 p3 p4 p5 p6)), .second, .val (.double (lw_got p1 p2 p3 p4 p5 p6)), .second, .val (.int (1 : Int32)), .unset] [(.long p5), (.double (FP.dadd (FP.l2d p5) (FP.ddiv (FP.dmul (FP.dsub (FP.l2d p6) (FP.l2d p5)) (FP.i2d (0 : Int32))) (FP.i2d (lw_n p1 p2 p3 p4 p5 p6)))))])) _
    refine XS.l2dS X20.here hx rfl (hb hby at_183) rfl rfl ?_
    show Steps p.tables e below (T20.setTop (mkF m 184 #[.val (.int p1), .val (.int p2), .val (.int p3), .val (.int p4), .val (.long p5), .second, .val (.long p6), .second, .val (.int (lw_n p1 p2 p3 p4 p5 p6)), .val (.int (lw_k p1 p2 p3 p4 p5 p6)), .val (.ref ad1), .val (.ref ad3), .val (.long (lw_d p1 p2 p3 p4 p5 p6)), .second, .val (.long (lw_num p1 p2 p3 p4 p5 p6)), .second, .val (.long (lw_qq p1 p2 p3 p4 p5 p6)), .second, .val (.long (lw_r p1 p2 p3 p4 p5 p6)), .second, .val (.long (lw_lo p1 p2 p3 p4 p5 p6)), .second, .val (.long (lw_hi p1 p2 p3 p4 p5 p6)), .second, .val (.double (lw_got p1 p2 p3 p4 p5 p6)), .second, .val (.int (1 : Int32)), .unset] [(.double (FP.l2d p5)), (.double (FP.dadd (FP.l2d p5) (FP.ddiv (FP.dmul (FP.dsub (FP.l2d p6) (FP.l2d p5)) (FP.i2d (0 : Int32))) (FP.i2d (lw_n p1 p2 p3 p4 p5 p6)))))])) _
    refine XS.dcmpS X20.here hx rfl (hb hby at_184) rfl rfl ?_
    show Steps p.tables e below (T20.setTop (mkF m 185 #[.val (.int p1), .val (.int p2), .val (.int p3), .val (.int p4), .val (.long p5), .second, .val (.long p6), .second, .val (.int (lw_n p1 p2 p3 p4 p5 p6)), .val (.int (lw_k p1 p2 p3 p4 p5 p6)), .val (.ref ad1), .val (.ref ad3), .val (.long (lw_d p1 p2 p3 p4 p5 p6)), .second, .val (.long (lw_num p1 p2 p3 p4 p5 p6)), .second, .val (.long (lw_qq p1 p2 p3 p4 p5 p6)), .second, .val (.long (lw_r p1 p2 p3 p4 p5 p6)), .second, .val (.long (lw_lo p1 p2 p3 p4 p5 p6)), .second, .val (.long (lw_hi p1 p2 p3 p4 p5 p6)), .second, .val (.double (lw_got p1 p2 p3 p4 p5 p6)), .second, .val (.int (1 : Int32)), .unset] [(.int (cmpValue (FP.dcmp (FP.dadd (FP.l2d p5) (FP.ddiv (FP.dmul (FP.dsub (FP.l2d p6) (FP.l2d p5)) (FP.i2d (0 : Int32))) (FP.i2d (lw_n p1 p2 p3 p4 p5 p6)))) (FP.l2d p5)) .l))])) _
    refine XS.ifNo X20.here hx rfl (hb hby at_185) rfl (own_e3 p1 p2 p3 p4 p5 p6) ?_
    show Steps p.tables e below (T20.setTop (mkF m 188 #[.val (.int p1), .val (.int p2), .val (.int p3), .val (.int p4), .val (.long p5), .second, .val (.long p6), .second, .val (.int (lw_n p1 p2 p3 p4 p5 p6)), .val (.int (lw_k p1 p2 p3 p4 p5 p6)), .val (.ref ad1), .val (.ref ad3), .val (.long (lw_d p1 p2 p3 p4 p5 p6)), .second, .val (.long (lw_num p1 p2 p3 p4 p5 p6)), .second, .val (.long (lw_qq p1 p2 p3 p4 p5 p6)), .second, .val (.long (lw_r p1 p2 p3 p4 p5 p6)), .second, .val (.long (lw_lo p1 p2 p3 p4 p5 p6)), .second, .val (.long (lw_hi p1 p2 p3 p4 p5 p6)), .second, .val (.double (lw_got p1 p2 p3 p4 p5 p6)), .second, .val (.int (1 : Int32)), .unset] [])) _
    refine XS.iconst X20.here hx rfl (hb hby at_188) ?_
    show Steps p.tables e below (T20.setTop (mkF m 189 #[.val (.int p1), .val (.int p2), .val (.int p3), .val (.int p4), .val (.long p5), .second, .val (.long p6), .second, .val (.int (lw_n p1 p2 p3 p4 p5 p6)), .val (.int (lw_k p1 p2 p3 p4 p5 p6)), .val (.ref ad1), .val (.ref ad3), .val (.long (lw_d p1 p2 p3 p4 p5 p6)), .second, .val (.long (lw_num p1 p2 p3 p4 p5 p6)), .second, .val (.long (lw_qq p1 p2 p3 p4 p5 p6)), .second, .val (.long (lw_r p1 p2 p3 p4 p5 p6)), .second, .val (.long (lw_lo p1 p2 p3 p4 p5 p6)), .second, .val (.long (lw_hi p1 p2 p3 p4 p5 p6)), .second, .val (.double (lw_got p1 p2 p3 p4 p5 p6)), .second, .val (.int (1 : Int32)), .unset] [(.int (1 : Int32))])) _
    refine XS.goto X20.here hx rfl (pc0 := 189) (pc' := 193) rfl (hb hby at_189) (by decide) (by decide) ?_
    show Steps p.tables e below (T20.setTop (mkF m 193 #[.val (.int p1), .val (.int p2), .val (.int p3), .val (.int p4), .val (.long p5), .second, .val (.long p6), .second, .val (.int (lw_n p1 p2 p3 p4 p5 p6)), .val (.int (lw_k p1 p2 p3 p4 p5 p6)), .val (.ref ad1), .val (.ref ad3), .val (.long (lw_d p1 p2 p3 p4 p5 p6)), .second, .val (.long (lw_num p1 p2 p3 p4 p5 p6)), .second, .val (.long (lw_qq p1 p2 p3 p4 p5 p6)), .second, .val (.long (lw_r p1 p2 p3 p4 p5 p6)), .second, .val (.long (lw_lo p1 p2 p3 p4 p5 p6)), .second, .val (.long (lw_hi p1 p2 p3 p4 p5 p6)), .second, .val (.double (lw_got p1 p2 p3 p4 p5 p6)), .second, .val (.int (1 : Int32)), .unset] [(.int (1 : Int32))])) _
    refine XS.istore X20.here hx rfl (hb hby at_193) rfl (l' := #[.val (.int p1), .val (.int p2), .val (.int p3), .val (.int p4), .val (.long p5), .second, .val (.long p6), .second, .val (.int (lw_n p1 p2 p3 p4 p5 p6)), .val (.int (lw_k p1 p2 p3 p4 p5 p6)), .val (.ref ad1), .val (.ref ad3), .val (.long (lw_d p1 p2 p3 p4 p5 p6)), .second, .val (.long (lw_num p1 p2 p3 p4 p5 p6)), .second, .val (.long (lw_qq p1 p2 p3 p4 p5 p6)), .second, .val (.long (lw_r p1 p2 p3 p4 p5 p6)), .second, .val (.long (lw_lo p1 p2 p3 p4 p5 p6)), .second, .val (.long (lw_hi p1 p2 p3 p4 p5 p6)), .second, .val (.double (lw_got p1 p2 p3 p4 p5 p6)), .second, .val (.int (1 : Int32)), .val (.int (1 : Int32))]) rfl ?_
    show Steps p.tables e below (T20.setTop (mkF m 195 #[.val (.int p1), .val (.int p2), .val (.int p3), .val (.int p4), .val (.long p5), .second, .val (.long p6), .second, .val (.int (lw_n p1 p2 p3 p4 p5 p6)), .val (.int (lw_k p1 p2 p3 p4 p5 p6)), .val (.ref ad1), .val (.ref ad3), .val (.long (lw_d p1 p2 p3 p4 p5 p6)), .second, .val (.long (lw_num p1 p2 p3 p4 p5 p6)), .second, .val (.long (lw_qq p1 p2 p3 p4 p5 p6)), .second, .val (.long (lw_r p1 p2 p3 p4 p5 p6)), .second, .val (.long (lw_lo p1 p2 p3 p4 p5 p6)), .second, .val (.long (lw_hi p1 p2 p3 p4 p5 p6)), .second, .val (.double (lw_got p1 p2 p3 p4 p5 p6)), .second, .val (.int (1 : Int32)), .val (.int (1 : Int32))] [])) _
    refine XS.iload X20.here hx rfl (hb hby at_195) rfl ?_
    show Steps p.tables e below (T20.setTop (mkF m 197 #[.val (.int p1), .val (.int p2), .val (.int p3), .val (.int p4), .val (.long p5), .second, .val (.long p6), .second, .val (.int (lw_n p1 p2 p3 p4 p5 p6)), .val (.int (lw_k p1 p2 p3 p4 p5 p6)), .val (.ref ad1), .val (.ref ad3), .val (.long (lw_d p1 p2 p3 p4 p5 p6)), .second, .val (.long (lw_num p1 p2 p3 p4 p5 p6)), .second, .val (.long (lw_qq p1 p2 p3 p4 p5 p6)), .second, .val (.long (lw_r p1 p2 p3 p4 p5 p6)), .second, .val (.long (lw_lo p1 p2 p3 p4 p5 p6)), .second, .val (.long (lw_hi p1 p2 p3 p4 p5 p6)), .second, .val (.double (lw_got p1 p2 p3 p4 p5 p6)), .second, .val (.int (1 : Int32)), .val (.int (1 : Int32))] [(.int (1 : Int32))])) _
    refine XS.ifNo X20.here hx rfl (hb hby at_197) rfl (by decide) ?_
    show Steps p.tables e below (T20.setTop (mkF m 200 #[.val (.int p1), .val (.int p2), .val (.int p3), .val (.int p4), .val (.long p5), .second, .val (.long p6), .second, .val (.int (lw_n p1 p2 p3 p4 p5 p6)), .val (.int (lw_k p1 p2 p3 p4 p5 p6)), .val (.ref ad1), .val (.ref ad3), .val (.long (lw_d p1 p2 p3 p4 p5 p6)), .second, .val (.long (lw_num p1 p2 p3 p4 p5 p6)), .second, .val (.long (lw_qq p1 p2 p3 p4 p5 p6)), .second, .val (.long (lw_r p1 p2 p3 p4 p5 p6)), .second, .val (.long (lw_lo p1 p2 p3 p4 p5 p6)), .second, .val (.long (lw_hi p1 p2 p3 p4 p5 p6)), .second, .val (.double (lw_got p1 p2 p3 p4 p5 p6)), .second, .val (.int (1 : Int32)), .val (.int (1 : Int32))] [])) _
    refine XS.iload X20.here hx rfl (hb hby at_200) rfl ?_
    show Steps p.tables e below (T20.setTop (mkF m 202 #[.val (.int p1), .val (.int p2), .val (.int p3), .val (.int p4), .val (.long p5), .second, .val (.long p6), .second, .val (.int (lw_n p1 p2 p3 p4 p5 p6)), .val (.int (lw_k p1 p2 p3 p4 p5 p6)), .val (.ref ad1), .val (.ref ad3), .val (.long (lw_d p1 p2 p3 p4 p5 p6)), .second, .val (.long (lw_num p1 p2 p3 p4 p5 p6)), .second, .val (.long (lw_qq p1 p2 p3 p4 p5 p6)), .second, .val (.long (lw_r p1 p2 p3 p4 p5 p6)), .second, .val (.long (lw_lo p1 p2 p3 p4 p5 p6)), .second, .val (.long (lw_hi p1 p2 p3 p4 p5 p6)), .second, .val (.double (lw_got p1 p2 p3 p4 p5 p6)), .second, .val (.int (1 : Int32)), .val (.int (1 : Int32))] [(.int (1 : Int32))])) _
    refine XS.ifNo X20.here hx rfl (hb hby at_202) rfl (by decide) ?_
    show Steps p.tables e below (T20.setTop (mkF m 205 #[.val (.int p1), .val (.int p2), .val (.int p3), .val (.int p4), .val (.long p5), .second, .val (.long p6), .second, .val (.int (lw_n p1 p2 p3 p4 p5 p6)), .val (.int (lw_k p1 p2 p3 p4 p5 p6)), .val (.ref ad1), .val (.ref ad3), .val (.long (lw_d p1 p2 p3 p4 p5 p6)), .second, .val (.long (lw_num p1 p2 p3 p4 p5 p6)), .second, .val (.long (lw_qq p1 p2 p3 p4 p5 p6)), .second, .val (.long (lw_r p1 p2 p3 p4 p5 p6)), .second, .val (.long (lw_lo p1 p2 p3 p4 p5 p6)), .second, .val (.long (lw_hi p1 p2 p3 p4 p5 p6)), .second, .val (.double (lw_got p1 p2 p3 p4 p5 p6)), .second, .val (.int (1 : Int32)), .val (.int (1 : Int32))] [])) _
    refine XS.iconst X20.here hx rfl (hb hby at_205) ?_
    show Steps p.tables e below (T20.setTop (mkF m 206 #[.val (.int p1), .val (.int p2), .val (.int p3), .val (.int p4), .val (.long p5), .second, .val (.long p6), .second, .val (.int (lw_n p1 p2 p3 p4 p5 p6)), .val (.int (lw_k p1 p2 p3 p4 p5 p6)), .val (.ref ad1), .val (.ref ad3), .val (.long (lw_d p1 p2 p3 p4 p5 p6)), .second, .val (.long (lw_num p1 p2 p3 p4 p5 p6)), .second, .val (.long (lw_qq p1 p2 p3 p4 p5 p6)), .second, .val (.long (lw_r p1 p2 p3 p4 p5 p6)), .second, .val (.long (lw_lo p1 p2 p3 p4 p5 p6)), .second, .val (.long (lw_hi p1 p2 p3 p4 p5 p6)), .second, .val (.double (lw_got p1 p2 p3 p4 p5 p6)), .second, .val (.int (1 : Int32)), .val (.int (1 : Int32))] [(.int (1 : Int32))])) _
    refine XS.goto X20.here hx rfl (pc0 := 206) (pc' := 210) rfl (hb hby at_206) (by decide) (by decide) ?_
    show Steps p.tables e below (T20.setTop (mkF m 210 #[.val (.int p1), .val (.int p2), .val (.int p3), .val (.int p4), .val (.long p5), .second, .val (.long p6), .second, .val (.int (lw_n p1 p2 p3 p4 p5 p6)), .val (.int (lw_k p1 p2 p3 p4 p5 p6)), .val (.ref ad1), .val (.ref ad3), .val (.long (lw_d p1 p2 p3 p4 p5 p6)), .second, .val (.long (lw_num p1 p2 p3 p4 p5 p6)), .second, .val (.long (lw_qq p1 p2 p3 p4 p5 p6)), .second, .val (.long (lw_r p1 p2 p3 p4 p5 p6)), .second, .val (.long (lw_lo p1 p2 p3 p4 p5 p6)), .second, .val (.long (lw_hi p1 p2 p3 p4 p5 p6)), .second, .val (.double (lw_got p1 p2 p3 p4 p5 p6)), .second, .val (.int (1 : Int32)), .val (.int (1 : Int32))] [(.int (1 : Int32))])) _
    exact retN X20 hx (t := .boolean) Bd.returns (by simp) (hb hby at_210) hr
  · show Q_lw Z p1 p2 p3 p4 p5 p6  h0 n0 _ T20.heap _
    exact ⟨rfl, Nn20⟩
set_option maxRecDepth 65536 in
set_option maxHeartbeats 40000000 in
theorem comes_1 {Post : Tables → Env → Array Value → State → Outcome → State → Prop} (hpost : ∀ tb e args s v u, (limb_1_1.after args s (.returned v) u = true ∧ limb_1_2.after args s (.returned v) u = true ∧ True) → FrameEnd s (.returned v) u (Jvm.fieldLocs frame_1_writes args s ++ Jvm.arrayLocs frame_1_arrays args s ++ Jvm.staticLocs frame_1_statics s) 16 128 → Post tb e args s (.returned v) u) :
    ArmFor flags0 classFile x code maxLocals ret World_1 tables_1 room_1 Calls_1 rest_1 Pre_1 Post := by
  intro l hfl _ _ p e ha hc hk s m args below hf hA hF happ hP
  obtain ⟨hcalls, hrest, hpre⟩ := hP
  obtain ⟨-, -, -, hnamed, -, -, -, hat⟩ := (Spec.applies_iff hf).mp happ
  obtain ⟨hg, hn⟩ := and_e (Cond.before_iff.mp (show (Jvm.Cond.and given_1 narrow_1).before args s = true from hpre))
  obtain ⟨h1, g0⟩ := and_e hg
  obtain ⟨i0, g1⟩ := and_e g0
  obtain ⟨i1, g2⟩ := and_e g1
  obtain ⟨i2, g3⟩ := and_e g2
  obtain ⟨i3, g4⟩ := and_e g3
  obtain ⟨i4, g5⟩ := and_e g4
  obtain ⟨w0, w1, w2, w3, w4, w5, rfl⟩ : ∃ w0 w1 w2 w3 w4 w5 : Value, args = #[w0, w1, w2, w3, w4, w5] := by
    have hs : args.size = 6 := by simpa [Cond.value, given_1] using h1
    obtain ⟨L⟩ := args
    match L, hs with
    | [w0, w1, w2, w3, w4, w5], _ => exact ⟨w0, w1, w2, w3, w4, w5, rfl⟩
  have hw := fun d (hd : d ∈ tables_1) => atoms_spec (ws := Jvm.Cond.code x code maxLocals ret :: tables_1) hat d (List.mem_cons_of_mem _ hd)
  obtain ⟨v0, e0⟩ := is_v i0
  obtain rfl : w0 = (.int v0) := Option.some.inj e0
  obtain ⟨v1, e1⟩ := is_v i1
  obtain rfl : w1 = (.int v1) := Option.some.inj e1
  obtain ⟨v2, e2⟩ := is_v i2
  obtain rfl : w2 = (.int v2) := Option.some.inj e2
  obtain ⟨v3, e3⟩ := is_v i3
  obtain rfl : w3 = (.int v3) := Option.some.inj e3
  obtain ⟨v4, e4⟩ := isL_v i4
  obtain rfl : w4 = (.long v4) := Option.some.inj e4
  obtain ⟨v5, e5⟩ := isL_v g5
  obtain rfl : w5 = (.long v5) := Option.some.inj e5
  obtain ⟨n, o, h1, h2, h3, _, L, rfl, ⟨rfl, N⟩, hq⟩ := rm_lw l s _ hw tables_1 v0 v1 v2 v3 v4 v5  s.heap s.heap.size (Nat.le_refl _)  p e ha hc hk s m _ below hf ((Spec.applies_iff_loose hf).mp happ).1 ⟨rfl, State.Warmed39.refl s, rfl⟩ trivial
  refine ⟨n, _, h1, h2, h3, hpost _ _ _ _ _ _ ⟨Cond.after_iff.mpr rfl, Cond.after_iff.mpr (eq_i res_at (Term.int_eval (1)) rfl), trivial⟩ ⟨hq.1, hq.2.1, (hq.2.2.sift fun y hy => Or.inr (N y hy)).mono (by decide) (by decide)⟩⟩
theorem main_1_1 : Claimed_1_1 := comes_1 fun _ _ _ _ _ _ h hF => ⟨h.1, hF⟩
theorem main_1_2 : Claimed_1_2 := comes_1 fun _ _ _ _ _ _ h hF => ⟨h.2.1, hF⟩
end Jvm.Pilot.@@N@@
namespace Jvm.Pilot.@@N@@
open Jvm Jvm.ClassFile Sem Op Lib Jvm.Free Jvm.Stand Jvm.Pilot.@@N@@.Jvm.D
/-! MADE BY PROGRAM (witnessworld.py) out of the Statement's table words and the real class files: 10 classes; the members and pool entries that the words name. The judged class is class 1, her method 1. -/
namespace start1
open Jvm.ClassFile
def u (s : String) : CpInfo := .utf8 (stringToUtf16 s)
/-- a pool by its gaps: so many unusable entries, then the entry; so many at the end -/
def gap : Nat → List CpInfo → List CpInfo
  | 0, r => r
  | n + 1, r => .unusable :: gap n r
def poolList (es : List (Nat × CpInfo)) (last : Nat) : List CpInfo := es.foldr (fun e r => gap e.1 (e.2 :: r)) (gap last [])
def pool (es : List (Nat × CpInfo)) (last : Nat) : Array CpInfo := ⟨poolList es last⟩
def fileOf (pool : Array CpInfo) (this : Nat) (attrs : Array Attribute := #[]) (ms : Array MethodInfo := #[]) (fl : Nat := 33) (sup : Nat := 0) (ifs : Array Nat := #[]) (fds : Array FieldInfo := #[]) : ClassFile where
  minorVersion := 0
  majorVersion := 65
  constantPool := pool
  accessFlags := fl
  thisClass := this
  superClass := sup
  interfaces := ifs
  fields := fds
  methods := ms
  attributes := attrs
def plain (name : String) (sup : Option ClassId) : Class where
  name := name
  kind := .ordinary
  loader := none
  accessFlags := 33
  super := sup
  interfaces := #[]
  cf := none
  fields := #[]
  methods := #[]
  instanceTypes := #[]
  staticTypes := #[]
  resolved := #[]
  callSites := []
  init := .initialized
  statics := none
  mirror := none

def pool0 : Array CpInfo := pool [(5, u "<init>"), (0, u "()V"), (1, .class_ 10), (1, u "java/lang/Object")] 113

def k0c0 : Code := { maxStack := 0, maxLocals := 1, code := object_method_1_code, exceptionTable := #[], attributes := #[] }
def k0m0 : Method := { name := "<init>", desc := "()V", sig := { parameters := [], returnType := none }, accessFlags := 1, code := some k0c0 }
/-- java/lang/Object -/
def k0 : Class := { plain "java/lang/Object" none with
  accessFlags := 33
  interfaces := #[]
  cf := some (fileOf pool0 8 #[] #[{ accessFlags := 1, nameIndex := 5, descriptorIndex := 6, attributes := #[] }] 33 0 #[] #[])
  fields := #[]
  methods := #[k0m0]
  instanceTypes := #[]
  staticTypes := #[]
  resolved := Array.replicate 124 none
  statics := none }

def pool1 : Array CpInfo := pool [(2, .class_ 4), (1, u "java/lang/Object"), (0, u "<init>"), (0, u "()V"), (0, .integer 1048575), (0, .integer 2147483647), (0, .class_ 10), (0, u "com/example/trailhive/trailhive/DaySlices"), (0, .methodref 9 12), (0, .nameAndType 5 13), (0, u "(DDI)V"), (0, .methodref 9 15), (0, .nameAndType 16 17), (0, u "boundary"), (0, u "(I)D"), (0, .class_ 19), (0, u "com/example/trailhive/trailhive/DaySlicesBoundaryPinLaw"), (2, u "law"), (0, u "(IIIIJJ)Z")] 3

def k1m0 : Method := { name := "<init>", desc := "()V", sig := { parameters := [], returnType := none }, accessFlags := 1, code := none }
def k1c1 : Code := { maxStack := 7, maxLocals := 28, code := code, exceptionTable := #[], attributes := #[] }
def k1m1 : Method := { name := "law", desc := "(IIIIJJ)Z", sig := { parameters := [.int, .int, .int, .int, .long, .long], returnType := some .boolean }, accessFlags := 9, code := some k1c1 }
/-- com/example/trailhive/trailhive/DaySlicesBoundaryPinLaw -/
def k1 : Class := { plain "com/example/trailhive/trailhive/DaySlicesBoundaryPinLaw" (some 0) with
  accessFlags := 49
  interfaces := #[]
  cf := some (fileOf pool1 18 #[] #[{ accessFlags := 1, nameIndex := 5, descriptorIndex := 6, attributes := #[] }, { accessFlags := 9, nameIndex := 22, descriptorIndex := 23, attributes := #[] }] 49 2 #[] #[])
  fields := #[]
  methods := #[k1m0, k1m1]
  instanceTypes := #[]
  staticTypes := #[]
  resolved := Array.replicate 27 none
  statics := none }

def pool2 : Array CpInfo := pool [(1, .methodref 2 3), (0, .class_ 4), (0, .nameAndType 5 6), (0, u "java/lang/Object"), (0, u "<init>"), (0, u "()V"), (0, .class_ 8), (0, u "java/lang/Record")] 13

def k2c0 : Code := { maxStack := 1, maxLocals := 1, code := jdk_30_method_1_code, exceptionTable := #[], attributes := #[] }
def k2m0 : Method := { name := "<init>", desc := "()V", sig := { parameters := [], returnType := none }, accessFlags := 4, code := some k2c0 }
/-- java/lang/Record -/
def k2 : Class := { plain "java/lang/Record" (some 0) with
  accessFlags := 1057
  interfaces := #[]
  cf := some (fileOf pool2 7 #[] #[{ accessFlags := 4, nameIndex := 5, descriptorIndex := 6, attributes := #[] }] 1057 2 #[] #[])
  fields := #[]
  methods := #[k2m0]
  instanceTypes := #[]
  staticTypes := #[]
  resolved := Array.replicate 22 none
  statics := none }

def pool3 : Array CpInfo := pool [(1, .methodref 2 3), (0, .class_ 4), (0, .nameAndType 5 6), (0, u "java/lang/Record"), (0, u "<init>"), (0, u "()V"), (9, .fieldref 17 18), (0, .class_ 19), (0, .nameAndType 20 21), (0, u "com/example/trailhive/trailhive/DaySlices"), (0, u "opens"), (0, u "D"), (0, .fieldref 17 23), (0, .nameAndType 24 21), (0, u "closes"), (0, .fieldref 17 26), (0, .nameAndType 27 28), (0, u "count"), (0, u "I"), (11, u "(DDI)V"), (5, u "boundary"), (0, u "(I)D"), (12, u "DEFAULT_COUNT"), (2, u "TOO_FEW"), (0, u "Ljava/lang/String;")] 44

def k3c0 : Code := { maxStack := 3, maxLocals := 6, code := prog_17_method_1_code, exceptionTable := #[], attributes := #[] }
def k3m0 : Method := { name := "<init>", desc := "(DDI)V", sig := { parameters := [.double, .double, .int], returnType := none }, accessFlags := 0, code := some k3c0 }
def k3c1 : Code := { maxStack := 6, maxLocals := 2, code := prog_17_method_4_code, exceptionTable := #[], attributes := #[] }
def k3m1 : Method := { name := "boundary", desc := "(I)D", sig := { parameters := [.int], returnType := some .double }, accessFlags := 0, code := some k3c1 }
/-- com/example/trailhive/trailhive/DaySlices -/
def k3 : Class := { plain "com/example/trailhive/trailhive/DaySlices" (some 2) with
  accessFlags := 48
  interfaces := #[]
  cf := some (fileOf pool3 17 #[] #[{ accessFlags := 0, nameIndex := 5, descriptorIndex := 40, attributes := #[] }, { accessFlags := 0, nameIndex := 46, descriptorIndex := 47, attributes := #[] }] 48 2 #[] #[{ accessFlags := 18, nameIndex := 20, descriptorIndex := 21, attributes := #[] }, { accessFlags := 18, nameIndex := 24, descriptorIndex := 21, attributes := #[] }, { accessFlags := 18, nameIndex := 27, descriptorIndex := 28, attributes := #[] }, { accessFlags := 24, nameIndex := 60, descriptorIndex := 28, attributes := #[] }, { accessFlags := 24, nameIndex := 63, descriptorIndex := 64, attributes := #[] }])
  fields := #[{ name := "opens", type := .double, accessFlags := 18, slot := 0, constantValue := 0 }, { name := "closes", type := .double, accessFlags := 18, slot := 1, constantValue := 0 }, { name := "count", type := .int, accessFlags := 18, slot := 2, constantValue := 0 }, { name := "DEFAULT_COUNT", type := .int, accessFlags := 24, slot := 0, constantValue := 0 }, { name := "TOO_FEW", type := (.object "java/lang/String"), accessFlags := 24, slot := 1, constantValue := 0 }]
  methods := #[k3m0, k3m1]
  instanceTypes := #[.double, .double, .int]
  staticTypes := #[.int, (.object "java/lang/String")]
  resolved := Array.replicate 109 none
  statics := none }

def pool4 : Array CpInfo := pool [(1, u "java/lang/Cloneable"), (0, .class_ 1), (0, u "java/lang/Object"), (0, .class_ 3)] 3

/-- java/lang/Cloneable -/
def k4 : Class := { plain "java/lang/Cloneable" (some 0) with
  accessFlags := 1537
  interfaces := #[]
  cf := some (fileOf pool4 2 #[] #[] 1537 4 #[] #[])
  fields := #[]
  methods := #[]
  instanceTypes := #[]
  staticTypes := #[]
  resolved := Array.replicate 8 none
  statics := none }

def pool5 : Array CpInfo := pool [(1, u "java/io/Serializable"), (0, .class_ 1), (0, u "java/lang/Object"), (0, .class_ 3)] 3

/-- java/io/Serializable -/
def k5 : Class := { plain "java/io/Serializable" (some 0) with
  accessFlags := 1537
  interfaces := #[]
  cf := some (fileOf pool5 2 #[] #[] 1537 4 #[] #[])
  fields := #[]
  methods := #[]
  instanceTypes := #[]
  staticTypes := #[]
  resolved := Array.replicate 8 none
  statics := none }

/-- the primitive byte -/
def k6 : Class := { plain "byte" none with kind := .primitive 'B', accessFlags := 0x411 }
/-- [B -/
def k7 : Class := { plain "[B" (some 0) with kind := .array 6 .byte, interfaces := #[4, 5], accessFlags := 1041 }

/-- the primitive int -/
def k8 : Class := { plain "int" none with kind := .primitive 'I', accessFlags := 0x411 }
/-- [I -/
def k9 : Class := { plain "[I" (some 0) with kind := .array 8 .int, interfaces := #[4, 5], accessFlags := 1041 }

def heap : Heap := #[]
def classes : Array Class := #[k0, k1, k2, k3, k4, k5, k6, k7, k8, k9]
def interned : List (Array UInt16 × Addr) := []
def slotsUsed : Nat := 0
def theMethod : MethodId := ⟨1, 1⟩
def args0 : Array Value := #[.int 3, .int 4, .int 5, .int 6, .long 7, .long 8]
def aboutOver (below : List Frame) : State where
  vm := { classes := classes, interned := interned.toArray }
  heap := heap
  slotsUsed := slotsUsed
  threads := #[{ frames := .invoking theMethod args0 :: below }]
def below0 : List Frame := [.native { method := ⟨0, 0⟩, args := #[] }]
def about1 : State := aboutOver below0
def p0 : Program := .bare "" "" ""
def e0 : Env := launch0.env 0 0 0
theorem w_frames : about1.frames = Frame.invoking theMethod args0 :: below0 := rfl
set_option maxRecDepth 65536 in
theorem w_args : argsFit about1.vm theMethod args0 = true := by decide +kernel
set_option maxRecDepth 65536 in
theorem w_heap : heapFits about1 = true := by decide +kernel
set_option maxRecDepth 65536 in
theorem w_runnable : about1.curStatus? = some .runnable := by decide +kernel
set_option maxRecDepth 65536 in
theorem w_alone : about1.alone = true := by decide +kernel
set_option maxRecDepth 65536 in
theorem w_named : about1.methodNamed? x = some theMethod := by decide +kernel
set_option maxRecDepth 65536 in
theorem w_hears : about1.hears theMethod below0 = true := by decide +kernel
set_option maxRecDepth 65536 in
theorem w_ripe : about1.ripe theMethod args0 below0 = true := by decide +kernel
theorem w_running : about1.status = .running := rfl
set_option maxRecDepth 65536 in
theorem w_room : about1.hasRoom e0.platform room_1 = true :=
  launch0.hasRoom_least _ room_1 (by decide +kernel) (by decide +kernel) (by decide +kernel) (by decide +kernel) (by decide +kernel) (by decide +kernel)
theorem allAtoms_all (ts : List Jvm.Cond) (a : Array Jvm.Value) (st : Jvm.State) : (allAtoms ts).before a st = ts.all (fun c => c.before a st) := by
  induction ts with
  | nil => rfl
  | cons c t ih =>
    show (Jvm.Cond.and c (allAtoms t)).before a st = _
    rw [Jvm.Cond.before_and, ih, List.all_cons]
def words1 : List Jvm.Cond := Jvm.Cond.code x code maxLocals ret :: tables_1
/-- a 'code' word, met by the world's own term for the bytes: nothing is compared byte by byte -/
theorem code_word {y : MethodName} {bytes : ByteArray} {mx : Nat} {rt : Option FieldType} {a : Array Value} {s : State} {m : MethodId} {meth : Method} {c : Code} (h1 : s.methodNamed? y = some m) (h2 : s.vm.method? m = some meth) (h3 : meth.code = some c) (h4 : c.code = bytes)
    (h5 : (c.maxLocals == mx && c.exceptionTable.isEmpty && decide (c.maxStack ≤ mostOperands) && decide (meth.sig.returnType = rt) && !meth.locks && decide (parseMethodDescriptor y.desc = some meth.sig)) = true) : (Jvm.Cond.code y bytes mx rt).before a s = true := by
  simp only [Bool.and_eq_true, beq_iff_eq, Bool.not_eq_true', decide_eq_true_eq] at h5
  obtain ⟨⟨⟨⟨⟨g1, g2⟩, g3⟩, g4⟩, g5⟩, g6⟩ := h5
  simp [Cond.before, Cond.holds, Cond.value, h1, h2, h3, h4, g1, g2, g3, g4, g5, g6]
def isCode : Jvm.Cond → Bool
  | .code _ _ _ _ => true
  | _ => false
theorem all_split {L : List Jvm.Cond} {P : Jvm.Cond → Bool} (h1 : L.all (fun c => isCode c || P c) = true) (h2 : ∀ c ∈ L.filter isCode, P c = true) : L.all P = true := by
  refine List.all_eq_true.mpr fun c hc => ?_
  have h := List.all_eq_true.mp h1 c hc
  rcases Bool.eq_false_or_eq_true (isCode c) with hi | hi
  · exact h2 c (List.mem_filter.mpr ⟨hc, hi⟩)
  · simpa [hi] using h
set_option maxRecDepth 65536 in
theorem w_c0 : (Jvm.Cond.code x code maxLocals ret).before args0 about1 = true := code_word (m := ⟨1, 1⟩) (meth := k1m1) (c := k1c1) (by decide +kernel) rfl rfl rfl (by decide +kernel)
set_option maxRecDepth 65536 in
theorem w_c1 : (Jvm.Cond.code ({ cls := "com/example/trailhive/trailhive/DaySlices", name := "<init>", desc := "(DDI)V" } : Jvm.MethodName) prog_17_method_1_code (6 : Nat) (Option.none : Option Jvm.ClassFile.FieldType)).before args0 about1 = true := code_word (m := ⟨3, 0⟩) (meth := k3m0) (c := k3c0) (by decide +kernel) rfl rfl rfl (by decide +kernel)
set_option maxRecDepth 65536 in
theorem w_c2 : (Jvm.Cond.code ({ cls := "java/lang/Record", name := "<init>", desc := "()V" } : Jvm.MethodName) jdk_30_method_1_code (1 : Nat) (Option.none : Option Jvm.ClassFile.FieldType)).before args0 about1 = true := code_word (m := ⟨2, 0⟩) (meth := k2m0) (c := k2c0) (by decide +kernel) rfl rfl rfl (by decide +kernel)
set_option maxRecDepth 65536 in
theorem w_c3 : (Jvm.Cond.code ({ cls := "java/lang/Object", name := "<init>", desc := "()V" } : Jvm.MethodName) object_method_1_code (1 : Nat) (Option.none : Option Jvm.ClassFile.FieldType)).before args0 about1 = true := code_word (m := ⟨0, 0⟩) (meth := k0m0) (c := k0c0) (by decide +kernel) rfl rfl rfl (by decide +kernel)
set_option maxRecDepth 65536 in
theorem w_c4 : (Jvm.Cond.code ({ cls := "com/example/trailhive/trailhive/DaySlices", name := "boundary", desc := "(I)D" } : Jvm.MethodName) prog_17_method_4_code (2 : Nat) (Option.some Jvm.ClassFile.FieldType.double)).before args0 about1 = true := code_word (m := ⟨3, 1⟩) (meth := k3m1) (c := k3c1) (by decide +kernel) rfl rfl rfl (by decide +kernel)
def codes1 : List Jvm.Cond := [Jvm.Cond.code x code maxLocals ret, Jvm.Cond.code ({ cls := "com/example/trailhive/trailhive/DaySlices", name := "<init>", desc := "(DDI)V" } : Jvm.MethodName) prog_17_method_1_code (6 : Nat) (Option.none : Option Jvm.ClassFile.FieldType), Jvm.Cond.code ({ cls := "java/lang/Record", name := "<init>", desc := "()V" } : Jvm.MethodName) jdk_30_method_1_code (1 : Nat) (Option.none : Option Jvm.ClassFile.FieldType), Jvm.Cond.code ({ cls := "java/lang/Object", name := "<init>", desc := "()V" } : Jvm.MethodName) object_method_1_code (1 : Nat) (Option.none : Option Jvm.ClassFile.FieldType), Jvm.Cond.code ({ cls := "com/example/trailhive/trailhive/DaySlices", name := "boundary", desc := "(I)D" } : Jvm.MethodName) prog_17_method_4_code (2 : Nat) (Option.some Jvm.ClassFile.FieldType.double)]
set_option maxRecDepth 65536 in
theorem codes_eq : words1.filter isCode = codes1 := rfl
theorem w_codes : ∀ c ∈ words1.filter isCode, c.before args0 about1 = true := by
  rw [codes_eq]
  intro c hc
  simp only [codes1, List.mem_cons, List.not_mem_nil, or_false] at hc
  rcases hc with rfl | rfl | rfl | rfl | rfl
  · exact w_c0
  · exact w_c1
  · exact w_c2
  · exact w_c3
  · exact w_c4
set_option maxRecDepth 65536 in
theorem w_t1 : (words1.take 24).all (fun c => isCode c || c.before args0 about1) = true := by decide +kernel
set_option maxRecDepth 65536 in
theorem w_t2 : (words1.drop 24).all (fun c => isCode c || c.before args0 about1) = true := by decide +kernel
theorem w_tables : (allAtoms (Jvm.Cond.code x code maxLocals ret :: tables_1)).before args0 about1 = true := by
  rw [allAtoms_all]
  show words1.all (fun c => c.before args0 about1) = true
  refine all_split ?_ w_codes
  rw [← List.take_append_drop 24 words1, List.all_append, w_t1, w_t2]
  rfl
set_option maxRecDepth 65536 in
theorem w_case : (Jvm.Cond.and given_1 narrow_1).before args0 about1 = true := by decide +kernel
theorem w_applies : (headSpec (Jvm.Cond.code x code maxLocals ret :: tables_1) room_1).applies x e0.platform about1 = true :=
  (Spec.applies_iff w_frames).mpr ⟨w_running, w_runnable, w_alone, w_named, w_hears, w_ripe, w_room, w_tables⟩
theorem atStart : AtStart classFile x code maxLocals ret World_1 tables_1 room_1 Calls_1 rest_1 Pre_1 launch0 p0 e0 about1 theMethod args0 below0 :=
  ⟨lists_1, trivial, launch0.admits_env _ _ _, launch0.least_env, fairChoices_fair.cas, fairChoices_fair.clock, w_frames, w_args, w_heap, w_applies, trivial, trivial, w_case⟩
end start1
theorem witness_1 : WitnessClaimed_1 := ⟨start1.p0, start1.e0, start1.about1, start1.theMethod, start1.args0, start1.below0, start1.atStart⟩
end Jvm.Pilot.@@N@@
