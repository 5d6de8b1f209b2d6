import JvmDerived
import JvmDerived.Pilot.@@N@@Statement
import JvmDerived.Pilot.@@N@@Code
set_option linter.unusedVariables false
set_option linter.unusedSimpArgs false
@@BLOCK:NumsL.lean.txt@@
namespace Jvm.RoadKit
open Sem ClassFile Op Lib Jvm.Stand Jvm.Free Jvm.LawKit
section New
variable {p : Program} {l : Launch} {e : Env} {R : Room} {s : State} {m : MethodId} {args : Array Value} {below : List Frame} {meth : Method} {c : Code} {T : State} {locs : List Loc} {cells slots : Nat}
theorem retI (X : Stand p l e R s m args below meth c T locs cells slots) (hx : p.tables.exec = Jvm.exec) {pc : Nat} {Ls : Array Slot} {z : Int32} {rest : List Value} (hret : meth.sig.returnType = some .int) (hd : decode c.code pc = .ok (.ireturn, 1)) {fs : List Frame}
    (hl : ∀ (f : JFrame) (acts : List Action), f.method = m → f.locked = none → f.entered = [] → (doReturn e (T.setTop f) acts (some (.int z))).1 = T.setFrames fs) : Steps p.tables e below (T.setTop (mkF m pc Ls (.int z :: rest))) (T.setFrames fs) := by
  have hm' : T.vm.method? m = some meth := X.method'
  have hn : narrow .int (.int z) = .int z := rfl
  show Steps p.tables e below (T.setTop { method := m, pc := pc, locals := Ls, stack := _ :: rest, locked := none }) _
  jvm_step X.here [X.here.top, hx, hd, hm', hret, hn]
  first | (intro acts; rw [hl _ acts rfl rfl rfl]) | rw [hl _ _ rfl rfl rfl]
  exact Steps.refl _
end New
end Jvm.RoadKit
namespace Jvm.Pilot.@@N@@
open Jvm Jvm.ClassFile Sem Op Lib Jvm.Free Jvm.Stand Jvm.LawKit Jvm.RoadKit Bundle Jvm.Pilot.@@N@@.Jvm.D
/-! own text: doubles as whole numbers of 2^-1074 (own_Fin), what a double can hold (own_Rep), and the four operations by bounds -/
def own_Rep (z : Int) : Prop := ∃ (s : Bool) (c : Nat) (q : Int), FP.Core.fits FP.Core.b64 (.fin s c q) ∧ FP.Core.zval FP.Core.b64 (.fin s c q) = z
def own_Fin (a : UInt64) (z : Int) : Prop := FP.Core.DFin a ∧ FP.Core.zval FP.Core.b64 (FP.Core.val64 a) = z
def own_U : Int := ((FP.Core.one64 : Nat) : Int)
theorem own_U_pos : 0 < own_U := Int.natCast_pos.mpr FP.Core.one64_pos
theorem own_U_lit : own_U = 202402253307310618352495346718917307049556649764142118356901358027430339567995346891960383701437124495187077864316811911389808737385793476867013399940738509921517424276566361364466907742093216341239767678472745068562007483424692698618103355649159556340810056512358769552333414615230502532186327508646006263307707741093494784 := by decide +kernel
theorem own_Fin.rep {a : UInt64} {z : Int} (h : own_Fin a z) : own_Rep z := by
  obtain ⟨⟨s, c, q, e⟩, h⟩ := h
  refine ⟨s, c, q, ?_, ?_⟩
  · rw [← e]; exact FP.Core.val64_fits a
  · rw [← e]; exact h
theorem own_Fin.ne {a : UInt64} {z : Int} (h : own_Fin a z) : FP.Core.val64 a ≠ .nan := h.1.ne_nan
theorem own_Fin.nn {a : UInt64} {z : Int} (h : own_Fin a z) : Jvm.Free.Fl.NoNaN64 a := Jvm.Free.Fl.val64_no.mpr h.ne
def own_Val (a : UInt64) (z : Int) : Prop := FP.Core.val64 a ≠ .nan ∧ FP.Core.zval FP.Core.b64 (FP.Core.val64 a) = z
theorem own_Fin.v {a : UInt64} {z : Int} (h : own_Fin a z) : own_Val a z := ⟨h.ne, h.2⟩
theorem own_Val.nn {a : UInt64} {z : Int} (h : own_Val a z) : Jvm.Free.Fl.NoNaN64 a := Jvm.Free.Fl.val64_no.mpr h.1
theorem own_Fin.cast {a : UInt64} {z w : Int} (h : own_Fin a z) (e : z = w) : own_Fin a w := e ▸ h
theorem own_signed_le (s : Bool) (n : Nat) : FP.Core.signed s n ≤ (n : Int) ∧ -(n : Int) ≤ FP.Core.signed s n := by
  cases s <;> simp only [FP.Core.signed, if_true, Bool.false_eq_true, if_false] <;> omega
theorem own_zval_inf (f : FP.Core.Fmt) (s : Bool) : FP.Core.zval f (.inf s) = FP.Core.signed s (f.tails * 2 ^ (f.exps - 2)) := rfl
theorem own_zval_fin (f : FP.Core.Fmt) (s : Bool) (c : Nat) (q : Int) : FP.Core.zval f (.fin s c q) = FP.Core.signed s (FP.Core.inUnits c q f.qmin) := rfl
theorem own_Rep.lt {z : Int} (h : own_Rep z) : z < ((FP.Core.b64.tails * 2 ^ (FP.Core.b64.exps - 2) : Nat) : Int) ∧ -((FP.Core.b64.tails * 2 ^ (FP.Core.b64.exps - 2) : Nat) : Int) < z := by
  obtain ⟨s, c, q, hf, rfl⟩ := h
  have h1 := FP.Core.zmag_lt_top FP.Core.good_b64 hf
  have h2 := own_signed_le s (FP.Core.inUnits c q FP.Core.b64.qmin)
  rw [own_zval_fin]
  generalize FP.Core.inUnits c q FP.Core.b64.qmin = n at *
  generalize FP.Core.b64.tails * 2 ^ (FP.Core.b64.exps - 2) = t at *
  omega
theorem own_fin_of {r : UInt64} {lo hi : Int} (hn : FP.Core.val64 r ≠ .nan) (rl : own_Rep lo) (rh : own_Rep hi) (h1 : lo ≤ FP.Core.zval FP.Core.b64 (FP.Core.val64 r)) (h2 : FP.Core.zval FP.Core.b64 (FP.Core.val64 r) ≤ hi) :
    ∃ z, own_Fin r z ∧ lo ≤ z ∧ z ≤ hi := by
  refine ⟨_, ⟨?_, rfl⟩, h1, h2⟩
  have a := rl.lt
  have b := rh.lt
  cases hv : FP.Core.val64 r with
  | nan => exact absurd hv hn
  | fin s c q => exact ⟨s, c, q, hv⟩
  | inf s =>
    exfalso
    rw [hv, own_zval_inf] at h1 h2
    generalize FP.Core.b64.tails * 2 ^ (FP.Core.b64.exps - 2) = t at *
    cases s <;> simp only [FP.Core.signed, if_true, Bool.false_eq_true, if_false] at h1 h2 <;> omega
theorem own_add {a b : UInt64} {x y lo hi : Int} (ha : own_Fin a x) (hb : own_Fin b y) (rl : own_Rep lo) (rh : own_Rep hi) (h1 : lo ≤ x + y) (h2 : x + y ≤ hi) : ∃ z, own_Fin (FP.dadd a b) z ∧ lo ≤ z ∧ z ≤ hi := by
  obtain ⟨s1, c1, q1, f1, e1⟩ := id rl
  obtain ⟨s2, c2, q2, f2, e2⟩ := id rh
  have ev : FP.Core.val64 (FP.dadd a b) = _ := FP.Core.val64_dadd a b
  refine own_fin_of ((FP.Core.notNaN_iff _).mp (FP.Core.dadd_out ha.1.notNaN hb.1)) rl rh ?_ ?_
  · rw [ev, ← e1]
    exact FP.Core.sum_ge FP.Core.good_b64 ha.1 hb.1 (FP.Core.val64_fits a) (FP.Core.val64_fits b) f1 (fun q => nomatch q) (by rw [e1, ha.2, hb.2]; exact h1)
  · rw [ev, ← e2]
    exact FP.Core.sum_le FP.Core.good_b64 ha.1 hb.1 (FP.Core.val64_fits a) (FP.Core.val64_fits b) f2 (fun q => nomatch q) (by rw [e2, ha.2, hb.2]; exact h2)
theorem own_add_e {a b : UInt64} {x y : Int} (ha : own_Fin a x) (hb : own_Fin b y) (r : own_Rep (x + y)) : own_Fin (FP.dadd a b) (x + y) := by
  obtain ⟨z, h, h1, h2⟩ := own_add ha hb r r (Int.le_refl _) (Int.le_refl _)
  exact h.cast (Int.le_antisymm h2 h1)
theorem own_fin_negate {d : FP.Core.Datum} (h : ∃ s c q, d = .fin s c q) : ∃ s c q, FP.Core.negate d = .fin s c q := by
  obtain ⟨s, c, q, rfl⟩ := h
  exact ⟨!s, c, q, rfl⟩
theorem own_sub {a b : UInt64} {x y lo hi : Int} (ha : own_Fin a x) (hb : own_Fin b y) (rl : own_Rep lo) (rh : own_Rep hi) (h1 : lo ≤ x - y) (h2 : x - y ≤ hi) : ∃ z, own_Fin (FP.dsub a b) z ∧ lo ≤ z ∧ z ≤ hi := by
  obtain ⟨s1, c1, q1, f1, e1⟩ := id rl
  obtain ⟨s2, c2, q2, f2, e2⟩ := id rh
  have ev : FP.Core.val64 (FP.dsub a b) = _ := FP.Core.val64_dsub a b
  refine own_fin_of ((FP.Core.notNaN_iff _).mp (FP.Core.dsub_out ha.1.notNaN hb.1)) rl rh ?_ ?_
  · rw [ev, ← e1]
    exact FP.Core.sum_ge FP.Core.good_b64 ha.1 (own_fin_negate hb.1) (FP.Core.val64_fits a) (FP.Core.negate_fits (FP.Core.val64_fits b)) f1 (fun q => nomatch q) (by rw [e1, ha.2, FP.Core.zval_negate, hb.2]; omega)
  · rw [ev, ← e2]
    exact FP.Core.sum_le FP.Core.good_b64 ha.1 (own_fin_negate hb.1) (FP.Core.val64_fits a) (FP.Core.negate_fits (FP.Core.val64_fits b)) f2 (fun q => nomatch q) (by rw [e2, ha.2, FP.Core.zval_negate, hb.2]; omega)
theorem own_sub_e {a b : UInt64} {x y : Int} (ha : own_Fin a x) (hb : own_Fin b y) (r : own_Rep (x - y)) : own_Fin (FP.dsub a b) (x - y) := by
  obtain ⟨z, h, h1, h2⟩ := own_sub ha hb r r (Int.le_refl _) (Int.le_refl _)
  exact h.cast (Int.le_antisymm h2 h1)
theorem own_qq : (FP.Core.b64.qmin - 2 * FP.Core.b64.qmin).toNat = (-FP.Core.b64.qmin).toNat := by rw [FP.Core.qmin_b64]; rfl
theorem own_mul_ge {a b : UInt64} {x y lo : Int} (ha : own_Fin a x) (hb : own_Fin b y) (rl : own_Rep lo) (h1 : lo * own_U ≤ x * y) : lo ≤ FP.Core.zval FP.Core.b64 (FP.Core.val64 (FP.dmul a b)) := by
  obtain ⟨s1, c1, q1, f1, e1⟩ := id rl
  obtain ⟨s, c, q, ea⟩ := id ha.1
  obtain ⟨t, d, r, eb⟩ := id hb.1
  have fa := FP.Core.val64_fits a
  have fb := FP.Core.val64_fits b
  have za := ha.2
  have zb := hb.2
  have ev : FP.Core.val64 (FP.dmul a b) = _ := FP.Core.val64_dmul a b
  rw [ea] at fa za ev
  rw [eb] at fb zb ev
  obtain ⟨p1, p2, p3⟩ := FP.Core.product_units fa fb
  rw [p1] at ev
  have hq : 2 * FP.Core.b64.qmin ≤ FP.Core.b64.qmin := by rw [FP.Core.qmin_b64]; decide
  have hs : FP.Core.signed (s != t) (FP.Core.inUnits (c * d) (q + r) (2 * FP.Core.b64.qmin)) = x * y := by
    rw [p3, FP.Core.signed_xor, ← za, ← zb]; rfl
  have hu : ((2 ^ (FP.Core.b64.qmin - 2 * FP.Core.b64.qmin).toNat : Nat) : Int) = own_U := by rw [own_qq, FP.Core.pow_qmin64]; rfl
  rw [ev, ← e1]
  exact FP.Core.zval_round_ge FP.Core.good_b64 f1 (fun q => nomatch q) hq p2 (by rw [hs, hu, e1]; exact h1)
theorem own_mul_le {a b : UInt64} {x y hi : Int} (ha : own_Fin a x) (hb : own_Fin b y) (rh : own_Rep hi) (h2 : x * y ≤ hi * own_U) : FP.Core.zval FP.Core.b64 (FP.Core.val64 (FP.dmul a b)) ≤ hi := by
  obtain ⟨s2, c2, q2, f2, e2⟩ := id rh
  obtain ⟨s, c, q, ea⟩ := id ha.1
  obtain ⟨t, d, r, eb⟩ := id hb.1
  have fa := FP.Core.val64_fits a
  have fb := FP.Core.val64_fits b
  have za := ha.2
  have zb := hb.2
  have ev : FP.Core.val64 (FP.dmul a b) = _ := FP.Core.val64_dmul a b
  rw [ea] at fa za ev
  rw [eb] at fb zb ev
  obtain ⟨p1, p2, p3⟩ := FP.Core.product_units fa fb
  rw [p1] at ev
  have hq : 2 * FP.Core.b64.qmin ≤ FP.Core.b64.qmin := by rw [FP.Core.qmin_b64]; decide
  have hs : FP.Core.signed (s != t) (FP.Core.inUnits (c * d) (q + r) (2 * FP.Core.b64.qmin)) = x * y := by
    rw [p3, FP.Core.signed_xor, ← za, ← zb]; rfl
  have hu : ((2 ^ (FP.Core.b64.qmin - 2 * FP.Core.b64.qmin).toNat : Nat) : Int) = own_U := by rw [own_qq, FP.Core.pow_qmin64]; rfl
  rw [ev, ← e2]
  exact FP.Core.zval_round_le FP.Core.good_b64 f2 (fun q => nomatch q) hq p2 (by rw [hs, hu, e2]; exact h2)
theorem own_mul_ne {a b : UInt64} {x y : Int} (ha : own_Fin a x) (hb : own_Fin b y) : FP.Core.val64 (FP.dmul a b) ≠ .nan := (FP.Core.notNaN_iff _).mp (FP.Core.dmul_out ha.1 hb.1)
theorem own_mul {a b : UInt64} {x y lo hi : Int} (ha : own_Fin a x) (hb : own_Fin b y) (rl : own_Rep lo) (rh : own_Rep hi) (h1 : lo * own_U ≤ x * y) (h2 : x * y ≤ hi * own_U) : ∃ z, own_Fin (FP.dmul a b) z ∧ lo ≤ z ∧ z ≤ hi :=
  own_fin_of (own_mul_ne ha hb) rl rh (own_mul_ge ha hb rl h1) (own_mul_le ha hb rh h2)
theorem own_mul_e {a b : UInt64} {x y z : Int} (ha : own_Fin a x) (hb : own_Fin b y) (r : own_Rep z) (e : x * y = z * own_U) : own_Fin (FP.dmul a b) z := by
  obtain ⟨w, h, h1, h2⟩ := own_mul ha hb r r (Int.le_of_eq e.symm) (Int.le_of_eq e)
  exact h.cast (Int.le_antisymm h2 h1)
theorem own_ratio_units {c d : Nat} {q r m : Int} (hq : m ≤ q) (hr : m ≤ r) (hm : m < 0) :
    FP.Core.inUnits c (q - r) (m + m - r) = FP.Core.inUnits c q m * 2 ^ (-m).toNat ∧ ∀ v : Nat, v * 2 ^ (m - (m + m - r)).toNat * d = v * FP.Core.inUnits d r m := by
  constructor
  · unfold FP.Core.inUnits
    rw [show (q - r - (m + m - r)).toNat = (q - m).toNat + (-m).toNat by omega, Nat.pow_add, Nat.mul_assoc]
  · intro v
    unfold FP.Core.inUnits
    rw [show (m - (m + m - r)).toNat = (r - m).toNat by omega, Nat.mul_assoc, Nat.mul_comm d]
theorem own_ratio_le {s s' t : Bool} {c d : Nat} {q r : Int} {V : FP.Core.Datum} (hx : FP.Core.fits FP.Core.b64 (.fin s c q)) (hy : FP.Core.fits FP.Core.b64 (.fin t d r)) (hd : 0 < d) (hV : FP.Core.fits FP.Core.b64 V) (hn : V ≠ .nan)
    (h : FP.Core.inUnits c q FP.Core.b64.qmin * FP.Core.one64 ≤ FP.Core.zmag FP.Core.b64 V * FP.Core.inUnits d r FP.Core.b64.qmin) : FP.Core.zmag FP.Core.b64 (FP.Core.roundRatio FP.Core.b64 s' c d (q - r)) ≤ FP.Core.zmag FP.Core.b64 V := by
  have hm : FP.Core.b64.qmin < 0 := by rw [FP.Core.qmin_b64]; decide
  obtain ⟨u1, u2⟩ := own_ratio_units (c := c) (d := d) hx.2.1 hy.2.1 hm
  have hqx := hx.2.1
  have hqy := hy.2.1
  refine FP.Core.zmag_roundRatio_le FP.Core.good_b64 (e0 := FP.Core.b64.qmin + FP.Core.b64.qmin - r) hd hV hn (by omega) (by omega) ?_
  rw [u1, u2, FP.Core.pow_qmin64]; exact h
theorem own_ratio_ge {s s' t : Bool} {c d : Nat} {q r : Int} {V : FP.Core.Datum} (hx : FP.Core.fits FP.Core.b64 (.fin s c q)) (hy : FP.Core.fits FP.Core.b64 (.fin t d r)) (hd : 0 < d) (hV : FP.Core.fits FP.Core.b64 V)
    (h : FP.Core.zmag FP.Core.b64 V * FP.Core.inUnits d r FP.Core.b64.qmin ≤ FP.Core.inUnits c q FP.Core.b64.qmin * FP.Core.one64) : FP.Core.zmag FP.Core.b64 V ≤ FP.Core.zmag FP.Core.b64 (FP.Core.roundRatio FP.Core.b64 s' c d (q - r)) := by
  have hm : FP.Core.b64.qmin < 0 := by rw [FP.Core.qmin_b64]; decide
  obtain ⟨u1, u2⟩ := own_ratio_units (c := c) (d := d) hx.2.1 hy.2.1 hm
  have hqx := hx.2.1
  have hqy := hy.2.1
  refine FP.Core.zmag_roundRatio_ge FP.Core.good_b64 (e0 := FP.Core.b64.qmin + FP.Core.b64.qmin - r) hd hV (by omega) (by omega) ?_
  rw [u1, u2, FP.Core.pow_qmin64]; exact h
theorem own_quot {a b : UInt64} {y : Int} {s : Bool} {c : Nat} {q : Int} (ea : FP.Core.val64 a = .fin s c q) (hb : own_Fin b y) (hy : 0 < y) :
    ∃ d r, FP.Core.val64 b = .fin false d r ∧ 0 < d ∧ y = ((FP.Core.inUnits d r FP.Core.b64.qmin : Nat) : Int) ∧ FP.Core.val64 (FP.ddiv a b) = FP.Core.roundRatio FP.Core.b64 s c d (q - r) := by
  obtain ⟨t, d, r, eb⟩ := id hb.1
  have zb := hb.2
  rw [eb, own_zval_fin] at zb
  obtain ⟨k1, k2⟩ := FP.Core.signed_pos (s := t) (m := FP.Core.inUnits d r FP.Core.b64.qmin) (by rw [zb]; exact hy)
  have ht : t = false := by
    cases t with
    | false => rfl
    | true =>
      simp only [FP.Core.signed, if_true] at k1; omega
  subst ht
  have hd : 0 < d := by
    rcases Nat.eq_zero_or_pos d with h | h
    · subst h; unfold FP.Core.inUnits at k2; omega
    · exact h
  refine ⟨d, r, eb, hd, by rw [← zb, k1], ?_⟩
  have ev : FP.Core.val64 (FP.ddiv a b) = _ := FP.Core.val64_ddiv a b
  rw [ea, eb] at ev
  rw [ev]
  show (if d = 0 then _ else FP.Core.roundRatio FP.Core.b64 (s != false) c d (q - r)) = _
  rw [if_neg (Nat.pos_iff_ne_zero.mp hd)]
  cases s <;> rfl
theorem own_div_le {a b : UInt64} {x y hi : Int} (ha : own_Fin a x) (hb : own_Fin b y) (hy : 0 < y) (rh : own_Rep hi) (h2 : x * own_U ≤ hi * y) : FP.Core.zval FP.Core.b64 (FP.Core.val64 (FP.ddiv a b)) ≤ hi := by
  obtain ⟨s2, c2, q2, f2, e2⟩ := id rh
  obtain ⟨s, c, q, ea⟩ := id ha.1
  obtain ⟨d, r, eb, hd, ey, ev⟩ := own_quot ea hb hy
  have fa := FP.Core.val64_fits a
  have fb := FP.Core.val64_fits b
  have za := ha.2
  rw [ea] at fa za
  rw [eb] at fb
  have l1 := own_ratio_le (s' := s) fa fb hd f2 (fun q => nomatch q)
  have l2 := own_ratio_ge (s' := s) fa fb hd f2
  have hY : 0 < FP.Core.inUnits d r FP.Core.b64.qmin := by omega
  rw [ev, ← e2]
  unfold FP.Core.zval
  rw [FP.Core.sgn_roundRatio]
  rw [own_zval_fin] at za
  have e2' : FP.Core.signed s2 (FP.Core.zmag FP.Core.b64 (.fin s2 c2 q2)) = hi := e2
  show FP.Core.signed s _ ≤ FP.Core.signed s2 _
  rw [← e2', ← za, ey] at h2
  unfold own_U at h2
  rw [← FP.Core.signed_mul, ← FP.Core.signed_mul] at h2
  generalize FP.Core.zmag FP.Core.b64 (FP.Core.roundRatio FP.Core.b64 s c d (q - r)) = zR at *
  generalize FP.Core.zmag FP.Core.b64 (.fin s2 c2 q2) = v at *
  have hz : v * FP.Core.inUnits d r FP.Core.b64.qmin = 0 → v = 0 := fun h => (Nat.mul_eq_zero.mp h).resolve_right (by omega)
  generalize v * FP.Core.inUnits d r FP.Core.b64.qmin = B at *
  generalize FP.Core.inUnits c q FP.Core.b64.qmin * FP.Core.one64 = A at *
  cases s <;> cases s2 <;> simp only [FP.Core.signed, if_true, Bool.false_eq_true, if_false] at h2 ⊢
  · have := l1 (by omega); omega
  · have := l1 (by omega); have := hz (by omega); omega
  · omega
  · have := l2 (by omega); omega
theorem own_neg {a : UInt64} {x : Int} (ha : own_Fin a x) : own_Fin (FP.dneg a) (-x) := by
  have e : FP.Core.val64 (FP.dneg a) = _ := FP.val64_dneg a
  refine ⟨?_, ?_⟩
  · show ∃ s c q, _ = _
    rw [e]; exact own_fin_negate ha.1
  · rw [e, FP.Core.zval_negate, ha.2]
theorem own_div_ge {a b : UInt64} {x y lo : Int} (ha : own_Fin a x) (hb : own_Fin b y) (hy : 0 < y) (rl : own_Rep lo) (h1 : lo * y ≤ x * own_U) : lo ≤ FP.Core.zval FP.Core.b64 (FP.Core.val64 (FP.ddiv a b)) := by
  obtain ⟨s2, c2, q2, f2, e2⟩ := id rl
  obtain ⟨s, c, q, ea⟩ := id ha.1
  obtain ⟨d, r, eb, hd, ey, ev⟩ := own_quot ea hb hy
  have fa := FP.Core.val64_fits a
  have fb := FP.Core.val64_fits b
  have za := ha.2
  rw [ea] at fa za
  rw [eb] at fb
  have l1 := own_ratio_le (s' := s) fa fb hd f2 (fun q => nomatch q)
  have l2 := own_ratio_ge (s' := s) fa fb hd f2
  have hY : 0 < FP.Core.inUnits d r FP.Core.b64.qmin := by omega
  rw [ev, ← e2]
  unfold FP.Core.zval
  rw [FP.Core.sgn_roundRatio]
  rw [own_zval_fin] at za
  have e2' : FP.Core.signed s2 (FP.Core.zmag FP.Core.b64 (.fin s2 c2 q2)) = lo := e2
  show FP.Core.signed s2 _ ≤ FP.Core.signed s _
  rw [← e2', ← za, ey] at h1
  unfold own_U at h1
  rw [← FP.Core.signed_mul, ← FP.Core.signed_mul] at h1
  generalize FP.Core.zmag FP.Core.b64 (FP.Core.roundRatio FP.Core.b64 s c d (q - r)) = zR at *
  generalize FP.Core.zmag FP.Core.b64 (.fin s2 c2 q2) = v at *
  have hz : v * FP.Core.inUnits d r FP.Core.b64.qmin = 0 → v = 0 := fun h => (Nat.mul_eq_zero.mp h).resolve_right (by omega)
  generalize v * FP.Core.inUnits d r FP.Core.b64.qmin = B at *
  generalize FP.Core.inUnits c q FP.Core.b64.qmin * FP.Core.one64 = A at *
  cases s <;> cases s2 <;> simp only [FP.Core.signed, if_true, Bool.false_eq_true, if_false] at h1 ⊢
  · have := l2 (by omega); omega
  · omega
  · have := l1 (by omega); have := hz (by omega); omega
  · have := l1 (by omega); omega
theorem own_div {a b : UInt64} {x y lo hi : Int} (ha : own_Fin a x) (hb : own_Fin b y) (hy : 0 < y) (rl : own_Rep lo) (rh : own_Rep hi) (h1 : lo * y ≤ x * own_U) (h2 : x * own_U ≤ hi * y) : ∃ z, own_Fin (FP.ddiv a b) z ∧ lo ≤ z ∧ z ≤ hi := by
  refine own_fin_of ?_ rl rh (own_div_ge ha hb hy rl h1) (own_div_le ha hb hy rh h2)
  obtain ⟨s, c, q, ea⟩ := id ha.1
  obtain ⟨d, r, eb, hd, ey, ev⟩ := own_quot ea hb hy
  rw [ev]; exact FP.Core.roundRatio_ne_nan _ _ _ _ _
theorem own_div_e {a b : UInt64} {x y z : Int} (ha : own_Fin a x) (hb : own_Fin b y) (hy : 0 < y) (r : own_Rep z) (e : x * own_U = z * y) : own_Fin (FP.ddiv a b) z := by
  obtain ⟨w, h, h1, h2⟩ := own_div ha hb hy r r (Int.le_of_eq e.symm) (Int.le_of_eq e)
  exact h.cast (Int.le_antisymm h2 h1)
/-- quotients of one value are one double -/
theorem own_div_same {a b a' b' : UInt64} {x y x' y' : Int} (ha : own_Fin a x) (hb : own_Fin b y) (ha' : own_Fin a' x') (hb' : own_Fin b' y') (hx : 0 < x) (hx' : 0 < x') (hy : 0 < y) (hy' : 0 < y') (e : x * y' = x' * y) : FP.Core.val64 (FP.ddiv a b) = FP.Core.val64 (FP.ddiv a' b') := by
  obtain ⟨s, c, q, ea⟩ := id ha.1
  obtain ⟨d, r, eb, hd, ey, ev⟩ := own_quot ea hb hy
  obtain ⟨s', c', q', ea'⟩ := id ha'.1
  obtain ⟨d', r', eb', hd', ey', ev'⟩ := own_quot ea' hb' hy'
  have za := ha.2
  have za' := ha'.2
  have fa := FP.Core.val64_fits a
  have fb := FP.Core.val64_fits b
  have fa' := FP.Core.val64_fits a'
  have fb' := FP.Core.val64_fits b'
  rw [ea] at za fa
  rw [ea'] at za' fa'
  rw [eb] at fb
  rw [eb'] at fb'
  rw [own_zval_fin] at za za'
  obtain ⟨k1, k2⟩ := FP.Core.signed_pos (s := s) (m := FP.Core.inUnits c q FP.Core.b64.qmin) (by rw [za]; exact hx)
  obtain ⟨k1', k2'⟩ := FP.Core.signed_pos (s := s') (m := FP.Core.inUnits c' q' FP.Core.b64.qmin) (by rw [za']; exact hx')
  have hs : s = false := by
    cases s with
    | false => rfl
    | true => simp only [FP.Core.signed, if_true] at k1; omega
  have hs' : s' = false := by
    cases s' with
    | false => rfl
    | true => simp only [FP.Core.signed, if_true] at k1'; omega
  subst hs hs'
  rw [ev, ev']
  have E : FP.Core.inUnits c q FP.Core.b64.qmin * FP.Core.inUnits d' r' FP.Core.b64.qmin = FP.Core.inUnits c' q' FP.Core.b64.qmin * FP.Core.inUnits d r FP.Core.b64.qmin := by
    have h : ((FP.Core.inUnits c q FP.Core.b64.qmin * FP.Core.inUnits d' r' FP.Core.b64.qmin : Nat) : Int) = ((FP.Core.inUnits c' q' FP.Core.b64.qmin * FP.Core.inUnits d r FP.Core.b64.qmin : Nat) : Int) := by
      rw [Int.natCast_mul, Int.natCast_mul, ← k1, ← k1', za, za', ← ey, ← ey']; exact e
    exact Int.ofNat_inj.mp h
  have g1 := fa.2.1
  have g2 := fb.2.1
  have g3 := fa'.2.1
  have g4 := fb'.2.1
  generalize FP.Core.b64.qmin = m at *
  refine FP.Core.roundRatio_congr hd hd' ?_
  unfold FP.Core.inUnits at E
  generalize ha1 : (q - m).toNat = A1 at *
  generalize ha2 : (r - m).toNat = A2 at *
  generalize ha3 : (q' - m).toNat = A3 at *
  generalize ha4 : (r' - m).toNat = A4 at *
  have E' : c * d' * 2 ^ (A1 + A4) = c' * d * 2 ^ (A3 + A2) := by
    rw [Nat.pow_add, Nat.pow_add]
    calc c * d' * (2 ^ A1 * 2 ^ A4) = c * 2 ^ A1 * (d' * 2 ^ A4) := by simp only [Nat.mul_assoc, Nat.mul_left_comm, Nat.mul_comm]
      _ = c' * 2 ^ A3 * (d * 2 ^ A2) := E
      _ = c' * d * (2 ^ A3 * 2 ^ A2) := by simp only [Nat.mul_assoc, Nat.mul_left_comm, Nat.mul_comm]
  rcases Nat.le_total (A3 + A2) (A1 + A4) with h | h
  · rw [show (q - r - (q' - r')).toNat = (A1 + A4) - (A3 + A2) by omega, show (q' - r' - (q - r)).toNat = 0 by omega]
    have : 2 ^ (A1 + A4) = 2 ^ ((A1 + A4) - (A3 + A2)) * 2 ^ (A3 + A2) := by rw [← Nat.pow_add]; congr 1; omega
    rw [this, ← Nat.mul_assoc] at E'
    rw [Nat.pow_zero, Nat.mul_one]
    exact Nat.eq_of_mul_eq_mul_right (Nat.two_pow_pos _) E'
  · rw [show (q - r - (q' - r')).toNat = 0 by omega, show (q' - r' - (q - r)).toNat = (A3 + A2) - (A1 + A4) by omega]
    have : 2 ^ (A3 + A2) = 2 ^ ((A3 + A2) - (A1 + A4)) * 2 ^ (A1 + A4) := by rw [← Nat.pow_add]; congr 1; omega
    rw [this, ← Nat.mul_assoc] at E'
    rw [Nat.pow_zero, Nat.mul_one]
    exact Nat.eq_of_mul_eq_mul_right (Nat.two_pow_pos _) E'
theorem own_cmp {a b : UInt64} {x y : Int} (ha : own_Val a x) (hb : own_Val b y) (o : CmpOp) : cmpValue (FP.dcmp a b) o = if x < y then -1 else if x = y then 0 else 1 := by
  rw [show FP.dcmp a b = _ from FP.Core.dcmp_zval ha.1 hb.1, ha.2, hb.2, FP.Core.compare_ite]
  by_cases h1 : x < y
  · rw [if_pos h1, if_pos h1]; rfl
  · rw [if_neg h1, if_neg h1]
    by_cases h2 : x = y
    · rw [if_pos h2, if_pos h2]; rfl
    · rw [if_neg h2, if_neg h2]; rfl
theorem own_if {a b : UInt64} {x y : Int} (ha : own_Val a x) (hb : own_Val b y) (o : CmpOp) :
    (ifCond.holds .eq (cmpValue (FP.dcmp a b) o) = decide (x = y)) ∧ (ifCond.holds .ne (cmpValue (FP.dcmp a b) o) = decide (x ≠ y)) ∧ (ifCond.holds .lt (cmpValue (FP.dcmp a b) o) = decide (x < y)) ∧
    (ifCond.holds .ge (cmpValue (FP.dcmp a b) o) = decide (y ≤ x)) ∧ (ifCond.holds .gt (cmpValue (FP.dcmp a b) o) = decide (y < x)) ∧ (ifCond.holds .le (cmpValue (FP.dcmp a b) o) = decide (x ≤ y)) := by
  rw [own_cmp ha hb o]
  by_cases h1 : x < y
  · rw [if_pos h1]
    rw [decide_eq_false (show ¬ x = y by omega), decide_eq_true (show x ≠ y by omega), decide_eq_true h1, decide_eq_false (show ¬ y ≤ x by omega), decide_eq_false (show ¬ y < x by omega), decide_eq_true (show x ≤ y by omega)]
    decide
  · rw [if_neg h1]
    by_cases h2 : x = y
    · rw [if_pos h2]
      rw [decide_eq_true h2, decide_eq_false (show ¬ x ≠ y by omega), decide_eq_false h1, decide_eq_true (show y ≤ x by omega), decide_eq_false (show ¬ y < x by omega), decide_eq_true (show x ≤ y by omega)]
      decide
    · rw [if_neg h2]
      rw [decide_eq_false h2, decide_eq_true (show x ≠ y by omega), decide_eq_false h1, decide_eq_true (show y ≤ x by omega), decide_eq_true (show y < x by omega), decide_eq_false (show ¬ x ≤ y by omega)]
      decide
theorem own_of_dint {i : Int} {a : UInt64} (h : FP.Core.DInt i a) : own_Fin a (i * own_U) := by
  refine ⟨?_, FP.Core.DInt_zval h⟩
  have h' : FP.Core.Whole i (FP.Core.val64 a) := h
  cases hv : FP.Core.val64 a with
  | nan => rw [hv] at h'; exact h'.elim
  | inf s => rw [hv] at h'; exact h'.elim
  | fin s c q => exact ⟨s, c, q, hv⟩
theorem own_i2d (n : Int32) : own_Fin (FP.i2d n) (n.toInt * own_U) := own_of_dint (FP.Core.i2d_int n)
theorem own_l2d {n : Int64} (h : n.toInt.natAbs ≤ 9007199254740992) : own_Fin (FP.l2d n) (n.toInt * own_U) := own_of_dint (FP.Core.l2d_int h)
theorem own_signed_self (n : Int) : FP.Core.signed (decide (n < 0)) n.natAbs = n := by
  by_cases h : n < 0
  · rw [decide_eq_true h]; simp only [FP.Core.signed, if_true]; omega
  · rw [decide_eq_false h]; simp only [FP.Core.signed, Bool.false_eq_true, if_false]; omega
theorem own_rep (n : Int) (k : Nat) {P : Int} (hP : ((2 ^ k : Nat) : Int) = P) (hn : n.natAbs < 9007199254740992) (hk : k ≤ 2045) : own_Rep (n * P) := by
  have hmax : FP.Core.b64.qmax = 971 := by decide
  obtain ⟨c', q', h1, h2⟩ := FP.Core.round_exact FP.Core.good_b64 (decide (n < 0)) (c := n.natAbs) (q := (k : Int) - 1074) (show n.natAbs < 2 ^ 53 by omega) (by rw [FP.Core.qmin_b64]; omega) (by rw [hmax]; omega)
  refine ⟨decide (n < 0), c', q', ?_, ?_⟩
  · rw [← h1]; exact FP.Core.round_fits FP.Core.good_b64 _
  · rw [own_zval_fin, h2]
    unfold FP.Core.inUnits
    rw [show ((k : Int) - 1074 - FP.Core.b64.qmin).toNat = k by rw [FP.Core.qmin_b64]; omega, FP.Core.signed_mul, hP, own_signed_self]
theorem own_rep_U (n : Int) (hn : n.natAbs < 9007199254740992) : own_Rep (n * own_U) := own_rep n 1074 rfl hn (by decide)
/-! own text: ints, longs and branches in plain integers -/
theorem own_h_eq (x : Int32) : (ifCond.holds .eq x = true) ↔ x.toInt = 0 := by
  simp only [ifCond.holds, beq_iff_eq, ← Int32.toInt_inj, Int32.toInt_zero]
theorem own_h_ne (x : Int32) : (ifCond.holds .ne x = true) ↔ x.toInt ≠ 0 := by
  simp only [ifCond.holds, bne_iff_ne, ne_eq, ← Int32.toInt_inj, Int32.toInt_zero]
theorem own_h_lt (x : Int32) : (ifCond.holds .lt x = true) ↔ x.toInt < 0 := by
  simp only [ifCond.holds, decide_eq_true_eq, Int32.lt_iff_toInt_lt, Int32.toInt_zero]
theorem own_h_ge (x : Int32) : (ifCond.holds .ge x = true) ↔ 0 ≤ x.toInt := by
  simp only [ifCond.holds, decide_eq_true_eq, ge_iff_le, Int32.le_iff_toInt_le, Int32.toInt_zero]
theorem own_h_gt (x : Int32) : (ifCond.holds .gt x = true) ↔ 0 < x.toInt := by
  simp only [ifCond.holds, decide_eq_true_eq, gt_iff_lt, Int32.lt_iff_toInt_lt, Int32.toInt_zero]
theorem own_h_le (x : Int32) : (ifCond.holds .le x = true) ↔ x.toInt ≤ 0 := by
  simp only [ifCond.holds, decide_eq_true_eq, Int32.le_iff_toInt_le, Int32.toInt_zero]
theorem own_c_eq (x y : Int32) : (if_icmp.holds .eq x y = true) ↔ x.toInt = y.toInt := by
  simp only [if_icmp.holds, beq_iff_eq, ← Int32.toInt_inj]
theorem own_c_ne (x y : Int32) : (if_icmp.holds .ne x y = true) ↔ x.toInt ≠ y.toInt := by
  simp only [if_icmp.holds, bne_iff_ne, ne_eq, ← Int32.toInt_inj]
theorem own_c_lt (x y : Int32) : (if_icmp.holds .lt x y = true) ↔ x.toInt < y.toInt := by
  simp only [if_icmp.holds, decide_eq_true_eq, Int32.lt_iff_toInt_lt]
theorem own_c_ge (x y : Int32) : (if_icmp.holds .ge x y = true) ↔ y.toInt ≤ x.toInt := by
  simp only [if_icmp.holds, decide_eq_true_eq, ge_iff_le, Int32.le_iff_toInt_le]
theorem own_c_gt (x y : Int32) : (if_icmp.holds .gt x y = true) ↔ y.toInt < x.toInt := by
  simp only [if_icmp.holds, decide_eq_true_eq, gt_iff_lt, Int32.lt_iff_toInt_lt]
theorem own_c_le (x y : Int32) : (if_icmp.holds .le x y = true) ↔ x.toInt ≤ y.toInt := by
  simp only [if_icmp.holds, decide_eq_true_eq, Int32.le_iff_toInt_le]
theorem own_L (x y : Int64) : (XT.cmpL x y).toInt = if y.toInt < x.toInt then 1 else if x.toInt = y.toInt then 0 else -1 := by
  unfold XT.cmpL
  simp only [Int64.lt_iff_toInt_lt, ← Int64.toInt_inj]
  split
  · rfl
  · split <;> rfl
theorem own_f_of {b : Bool} {p : Prop} (h : (b = true) ↔ p) (hp : ¬ p) : b = false := Bool.eq_false_iff.mpr fun q => hp (h.mp q)
theorem own_irem (x y : Int32) : (x - x / y * y).toInt = x.toInt.tmod y.toInt := by
  have a := (x % y).toInt_lt; have b := (x % y).le_toInt
  rw [Int32.toInt_mod] at a b
  rw [Int32.toInt_sub, Int32.toInt_mul, Int32.toInt_div, Int.bmod_mul_bmod, Int.sub_bmod_bmod, Int.mul_comm, ← Int.tmod_def]
  exact Jvm.Kit.bmod32 b a
theorem own_irem_nn {x y : Int32} (hx : 0 ≤ x.toInt) : (x - x / y * y).toInt = x.toInt % y.toInt := by rw [own_irem, Int.tmod_eq_emod_of_nonneg hx]
theorem own_ne0 {y : Int32} (h : y.toInt ≠ 0) : y ≠ 0 := fun q => h (by rw [q]; rfl)
theorem own_ne0L {y : Int64} (h : y.toInt ≠ 0) : y ≠ 0 := fun q => h (by rw [q]; rfl)
theorem own_mask31 (x : Int32) : 0 ≤ (x &&& 2147483647).toInt ∧ (x &&& 2147483647).toInt < 2147483648 := by
  rw [Jvm.Kit.i32_mask x 2147483647 (k := 31) (by decide) (by decide)]
  omega




def lw_n (p1 : Int32) (p2 : Int32) (p3 : Int32) (p4 : Int32) : Int32 := ((p3 &&& (1023 : Int32)) + (1 : Int32))
def lw_k (p1 : Int32) (p2 : Int32) (p3 : Int32) (p4 : Int32) : Int32 := (((p4 &&& (2147483647 : Int32)) - (p4 &&& (2147483647 : Int32)) / (lw_n p1 p2 p3 p4) * (lw_n p1 p2 p3 p4)) + (1 : Int32))
def lw_op (p1 : Int32) (p2 : Int32) (p3 : Int32) (p4 : Int32) : UInt64 := (FP.i2d p1)
def lw_cl (p1 : Int32) (p2 : Int32) (p3 : Int32) (p4 : Int32) : UInt64 := (FP.l2d ((Int32.toInt64 p1) + (Int32.toInt64 p2)))
def lw_s (p1 : Int32) (p2 : Int32) (p3 : Int32) (p4 : Int32) : UInt64 := (FP.dadd (lw_op p1 p2 p3 p4) (FP.ddiv (FP.dmul (FP.dsub (lw_cl p1 p2 p3 p4) (lw_op p1 p2 p3 p4)) (FP.i2d ((lw_k p1 p2 p3 p4) - (1 : Int32)))) (FP.i2d (lw_n p1 p2 p3 p4))))
def lw_p (p1 : Int32) (p2 : Int32) (p3 : Int32) (p4 : Int32) : Int64 := ((Int32.toInt64 p2) * (Int32.toInt64 ((lw_k p1 p2 p3 p4) - (1 : Int32))))
def lw_q (p1 : Int32) (p2 : Int32) (p3 : Int32) (p4 : Int32) : Int64 := ((lw_p p1 p2 p3 p4) / (Int32.toInt64 (lw_n p1 p2 p3 p4)))
def lw_r (p1 : Int32) (p2 : Int32) (p3 : Int32) (p4 : Int32) : Int64 := ((lw_p p1 p2 p3 p4) - (lw_p p1 p2 p3 p4) / (Int32.toInt64 (lw_n p1 p2 p3 p4)) * (Int32.toInt64 (lw_n p1 p2 p3 p4)))
def lx_n (p1 : Int32) (p2 : Int32) (p3 : Int32) (p4 : Int32) : Int32 := ((p3 &&& (1023 : Int32)) + (1 : Int32))
def lx_k (p1 : Int32) (p2 : Int32) (p3 : Int32) (p4 : Int32) : Int32 := (((p4 &&& (2147483647 : Int32)) - (p4 &&& (2147483647 : Int32)) / (lx_n p1 p2 p3 p4) * (lx_n p1 p2 p3 p4)) + (1 : Int32))
def lx_op (p1 : Int32) (p2 : Int32) (p3 : Int32) (p4 : Int32) : UInt64 := (FP.i2d p1)
def lx_cl (p1 : Int32) (p2 : Int32) (p3 : Int32) (p4 : Int32) : UInt64 := (FP.l2d ((Int32.toInt64 p1) + (Int32.toInt64 p2)))
def lx_s (p1 : Int32) (p2 : Int32) (p3 : Int32) (p4 : Int32) : UInt64 := (FP.dadd (lx_op p1 p2 p3 p4) (FP.ddiv (FP.dmul (FP.dsub (lx_cl p1 p2 p3 p4) (lx_op p1 p2 p3 p4)) (FP.i2d ((lx_k p1 p2 p3 p4) - (1 : Int32)))) (FP.i2d (lx_n p1 p2 p3 p4))))
def lx_p (p1 : Int32) (p2 : Int32) (p3 : Int32) (p4 : Int32) : Int64 := ((Int32.toInt64 p2) * (Int32.toInt64 ((lx_k p1 p2 p3 p4) - (1 : Int32))))
def lx_q (p1 : Int32) (p2 : Int32) (p3 : Int32) (p4 : Int32) : Int64 := ((lx_p p1 p2 p3 p4) / (Int32.toInt64 (lx_n p1 p2 p3 p4)))
def lx_r (p1 : Int32) (p2 : Int32) (p3 : Int32) (p4 : Int32) : Int64 := ((lx_p p1 p2 p3 p4) - (lx_p p1 p2 p3 p4) / (Int32.toInt64 (lx_n p1 p2 p3 p4)) * (Int32.toInt64 (lx_n p1 p2 p3 p4)))
def lx_q2 (p1 : Int32) (p2 : Int32) (p3 : Int32) (p4 : Int32) : Int64 := (if (ifCond.holds .ge (XT.cmpL (lx_p p1 p2 p3 p4) (0 : Int64))) = true then (lx_q p1 p2 p3 p4) else ((lx_q p1 p2 p3 p4) - (1 : Int64)))
def lx_lo (p1 : Int32) (p2 : Int32) (p3 : Int32) (p4 : Int32) : UInt64 := (FP.l2d ((Int32.toInt64 p1) + (lx_q2 p1 p2 p3 p4)))
def lx_hi (p1 : Int32) (p2 : Int32) (p3 : Int32) (p4 : Int32) : UInt64 := (FP.l2d (((Int32.toInt64 p1) + (lx_q2 p1 p2 p3 p4)) + (1 : Int64)))

theorem own_floor {p n : Int} (hn : 0 < n) : (p.tmod n = 0 ∨ 0 ≤ p → p.tdiv n = p / n) ∧ (p.tmod n ≠ 0 → p < 0 → p.tdiv n - 1 = p / n) ∧ (p.tmod n = 0 ↔ p / n * n = p) := by
  have e := Int.tdiv_eq_ediv (a := p) (b := n)
  have d := Int.dvd_iff_tmod_eq_zero (a := n) (b := p)
  refine ⟨fun h => ?_, fun h1 h2 => ?_, ?_⟩
  · rw [e, if_pos (h.elim (fun q => Or.inr (d.mpr q)) Or.inl), Int.add_zero]
  · rw [e, if_neg (fun q => q.elim (fun k => by omega) (fun k => h1 (d.mp k))), Int.sign_eq_one_of_pos hn]; omega
  · exact ⟨fun q => Int.ediv_mul_cancel (d.mpr q), fun q => d.mp ⟨p / n, by rw [Int.mul_comm]; exact q.symm⟩⟩
theorem own_Lne {x : Int64} : (ifCond.holds .ne (XT.cmpL x (0 : Int64)) = true) ↔ x.toInt ≠ 0 := by
  rw [own_h_ne, own_L, show (0 : Int64).toInt = 0 from rfl]
  by_cases h1 : 0 < x.toInt
  · rw [if_pos h1]; exact ⟨fun _ => by omega, fun _ => by decide⟩
  · rw [if_neg h1]
    by_cases h2 : x.toInt = 0
    · rw [if_pos h2]; exact ⟨fun q => absurd rfl q, fun q => absurd h2 q⟩
    · rw [if_neg h2]; exact ⟨fun _ => h2, fun _ => by decide⟩
theorem own_Lge {x : Int64} : (ifCond.holds .ge (XT.cmpL x (0 : Int64)) = true) ↔ 0 ≤ x.toInt := by
  rw [own_h_ge, own_L, show (0 : Int64).toInt = 0 from rfl]
  by_cases h1 : 0 < x.toInt
  · rw [if_pos h1]; exact ⟨fun _ => by omega, fun _ => by decide⟩
  · rw [if_neg h1]
    by_cases h2 : x.toInt = 0
    · rw [if_pos h2]; exact ⟨fun q => by omega, fun q => by decide⟩
    · rw [if_neg h2]; exact ⟨fun q => absurd q (by decide), fun _ => by omega⟩

/-- the boundary of whole ends, by bounds -/
theorem own_core {o c : UInt64} {a b : Int} {k n : Int32} {f g : Int} (ho : own_Fin o (a * own_U)) (hc : own_Fin c (b * own_U)) (hn : 1 ≤ n.toInt) (hd : (b - a).natAbs < 9007199254740992) (hm : ((b - a) * k.toInt).natAbs < 9007199254740992)
    (hf : f * n.toInt ≤ (b - a) * k.toInt) (hg : (b - a) * k.toInt ≤ g * n.toInt) (f1 : f.natAbs < 9007199254740992) (g1 : g.natAbs < 9007199254740992) (f2 : (a + f).natAbs < 9007199254740992) (g2 : (a + g).natAbs < 9007199254740992) :
    own_Fin (FP.dsub c o) ((b - a) * own_U) ∧ own_Fin (FP.dmul (FP.dsub c o) (FP.i2d k)) ((b - a) * k.toInt * own_U) ∧ (∃ z, own_Fin (FP.ddiv (FP.dmul (FP.dsub c o) (FP.i2d k)) (FP.i2d n)) z) ∧
      ∃ z, own_Fin (FP.dadd o (FP.ddiv (FP.dmul (FP.dsub c o) (FP.i2d k)) (FP.i2d n))) z ∧ (a + f) * own_U ≤ z ∧ z ≤ (a + g) * own_U := by
  have hU := own_U_pos
  have h1 : own_Fin (FP.dsub c o) ((b - a) * own_U) := by
    have e : b * own_U - a * own_U = (b - a) * own_U := (Int.sub_mul _ _ _).symm
    exact (own_sub_e hc ho (by rw [e]; exact own_rep_U _ hd)).cast e
  have h2 : own_Fin (FP.dmul (FP.dsub c o) (FP.i2d k)) ((b - a) * k.toInt * own_U) := by
    refine own_mul_e h1 (own_i2d k) (own_rep_U _ hm) ?_
    simp only [Int.mul_assoc, Int.mul_left_comm, Int.mul_comm]
  obtain ⟨z, h3, l, u⟩ := own_div h2 (own_i2d n) (Int.mul_pos (by omega) hU) (own_rep_U f f1) (own_rep_U g g1)
    (by
      have e : f * own_U * (n.toInt * own_U) = f * n.toInt * (own_U * own_U) := by simp only [Int.mul_assoc, Int.mul_left_comm, Int.mul_comm]
      rw [e, Int.mul_assoc ((b - a) * k.toInt)]
      exact Int.mul_le_mul_of_nonneg_right hf (Int.le_of_lt (Int.mul_pos hU hU)))
    (by
      have e : g * own_U * (n.toInt * own_U) = g * n.toInt * (own_U * own_U) := by simp only [Int.mul_assoc, Int.mul_left_comm, Int.mul_comm]
      rw [e, Int.mul_assoc ((b - a) * k.toInt)]
      exact Int.mul_le_mul_of_nonneg_right hg (Int.le_of_lt (Int.mul_pos hU hU)))
  refine ⟨h1, h2, ⟨z, h3⟩, ?_⟩
  refine own_add ho h3 (own_rep_U _ f2) (own_rep_U _ g2) ?_ ?_
  · rw [Int.add_mul]; omega
  · rw [Int.add_mul]; omega

theorem own_n (p1 p2 p3 p4 : Int32) : 1 ≤ (lw_n p1 p2 p3 p4).toInt ∧ (lw_n p1 p2 p3 p4).toInt ≤ 1024 := by
  have h := Jvm.Kit.i32_mask p3 1023 (k := 10) (by decide) (by decide)
  have e : (lw_n p1 p2 p3 p4).toInt = (p3 &&& 1023).toInt + 1 := Jvm.Kit.i32_add (p := p3 &&& 1023) (q := 1) (by rw [h]; show _ ≤ _ + (1 : Int); omega) (by rw [h]; show _ + (1 : Int) < _; omega)
  rw [e, h]; omega
theorem own_n0 (p1 p2 p3 p4 : Int32) : lw_n p1 p2 p3 p4 ≠ 0 := own_ne0 (by have := own_n p1 p2 p3 p4; omega)
theorem own_k (p1 p2 p3 p4 : Int32) : 1 ≤ (lw_k p1 p2 p3 p4).toInt ∧ (lw_k p1 p2 p3 p4).toInt ≤ (lw_n p1 p2 p3 p4).toInt := by
  have h := own_n p1 p2 p3 p4
  have hm := own_mask31 p4
  have q1 := Int.emod_nonneg (p4 &&& 2147483647).toInt (show (lw_n p1 p2 p3 p4).toInt ≠ 0 by omega)
  have q2 := Int.emod_lt_of_pos (p4 &&& 2147483647).toInt (show 0 < (lw_n p1 p2 p3 p4).toInt by omega)
  have e : ((p4 &&& 2147483647) - (p4 &&& 2147483647) / lw_n p1 p2 p3 p4 * lw_n p1 p2 p3 p4).toInt = (p4 &&& 2147483647).toInt % (lw_n p1 p2 p3 p4).toInt := own_irem_nn hm.1
  have e2 : (lw_k p1 p2 p3 p4).toInt = (p4 &&& 2147483647).toInt % (lw_n p1 p2 p3 p4).toInt + 1 := by
    rw [← e]; exact Jvm.Kit.i32_add (by rw [e]; show _ ≤ _ + (1 : Int); omega) (by rw [e]; show _ + (1 : Int) < _; omega)
  rw [e2]; omega
theorem own_k1 (p1 p2 p3 p4 : Int32) : (lw_k p1 p2 p3 p4 - (1 : Int32)).toInt = (lw_k p1 p2 p3 p4).toInt - 1 := by
  have h := own_n p1 p2 p3 p4
  have hk := own_k p1 p2 p3 p4
  exact Jvm.Kit.i32_sub (p := lw_k p1 p2 p3 p4) (q := 1) (by show _ ≤ _ - (1 : Int); omega) (by show _ - (1 : Int) < _; omega)
theorem own_ge (p1 p2 p3 p4 : Int32) : if_icmp.holds .ge (lw_n p1 p2 p3 p4) (1 : Int32) = true := (own_c_ge _ _).mpr (own_n p1 p2 p3 p4).1
theorem own_s1 (p1 p2 p3 p4 : Int32) : if_icmp.holds .lt (lw_k p1 p2 p3 p4) (1 : Int32) = false := own_f_of (own_c_lt _ _) (by have := own_k p1 p2 p3 p4; show ¬ _ < (1 : Int); omega)
theorem own_s2 (p1 p2 p3 p4 : Int32) : if_icmp.holds .le (lw_k p1 p2 p3 p4) (lw_n p1 p2 p3 p4) = true := (own_c_le _ _).mpr (own_k p1 p2 p3 p4).2
theorem own_s3 (p1 p2 p3 p4 : Int32) : if_icmp.holds .ne (lw_k p1 p2 p3 p4 - (1 : Int32)) (lw_n p1 p2 p3 p4) = true := (own_c_ne _ _).mpr (by rw [own_k1]; have := own_k p1 p2 p3 p4; omega)
theorem own_nL (p1 p2 p3 p4 : Int32) : Int32.toInt64 (lw_n p1 p2 p3 p4) ≠ 0 := own_ne0L (by rw [Jvm.Kit.i64_of_i32]; have := own_n p1 p2 p3 p4; omega)
theorem own_cl (p1 p2 p3 p4 : Int32) : own_Fin (lw_cl p1 p2 p3 p4) ((p1.toInt + p2.toInt) * own_U) := by
  have a1 := p1.toInt_lt; have b1 := p1.le_toInt
  have a2 := p2.toInt_lt; have b2 := p2.le_toInt
  have e : (Int32.toInt64 p1 + Int32.toInt64 p2).toInt = p1.toInt + p2.toInt := by
    rw [Jvm.Kit.i64_add (by rw [Jvm.Kit.i64_of_i32, Jvm.Kit.i64_of_i32]; omega) (by rw [Jvm.Kit.i64_of_i32, Jvm.Kit.i64_of_i32]; omega), Jvm.Kit.i64_of_i32, Jvm.Kit.i64_of_i32]
  have h := own_l2d (n := Int32.toInt64 p1 + Int32.toInt64 p2) (by rw [e]; omega)
  rw [e] at h; exact h
/-- the product of the window and the step, plainly -/
theorem own_prod (p1 p2 p3 p4 : Int32) : -2147483648 * 1024 ≤ p2.toInt * ((lw_k p1 p2 p3 p4).toInt - 1) ∧ p2.toInt * ((lw_k p1 p2 p3 p4).toInt - 1) ≤ 2147483648 * 1024 := by
  have a2 := p2.toInt_lt; have b2 := p2.le_toInt
  have h := own_n p1 p2 p3 p4
  have hk := own_k p1 p2 p3 p4
  have h1 : (p2.toInt * ((lw_k p1 p2 p3 p4).toInt - 1)).natAbs ≤ 2147483648 * 1024 := by
    rw [Int.natAbs_mul]; exact Nat.mul_le_mul (by omega) (by omega)
  omega
theorem own_p (p1 p2 p3 p4 : Int32) : (lw_p p1 p2 p3 p4).toInt = p2.toInt * ((lw_k p1 p2 p3 p4).toInt - 1) := by
  have h := own_prod p1 p2 p3 p4
  show (Int32.toInt64 p2 * Int32.toInt64 (lw_k p1 p2 p3 p4 - (1 : Int32))).toInt = _
  rw [Jvm.Kit.i64_mul (by rw [Jvm.Kit.i64_of_i32, Jvm.Kit.i64_of_i32, own_k1]; omega) (by rw [Jvm.Kit.i64_of_i32, Jvm.Kit.i64_of_i32, own_k1]; omega), Jvm.Kit.i64_of_i32, Jvm.Kit.i64_of_i32, own_k1]
theorem own_q (p1 p2 p3 p4 : Int32) : (lw_q p1 p2 p3 p4).toInt = (lw_p p1 p2 p3 p4).toInt.tdiv (lw_n p1 p2 p3 p4).toInt := by
  have h := own_n p1 p2 p3 p4
  show (lw_p p1 p2 p3 p4 / Int32.toInt64 (lw_n p1 p2 p3 p4)).toInt = _
  rw [Jvm.Kit.i64_div (by rw [Jvm.Kit.i64_of_i32]; omega), Jvm.Kit.i64_of_i32]
theorem own_r (p1 p2 p3 p4 : Int32) : (lw_r p1 p2 p3 p4).toInt = (lw_p p1 p2 p3 p4).toInt.tmod (lw_n p1 p2 p3 p4).toInt := by
  show (lw_p p1 p2 p3 p4 - lw_p p1 p2 p3 p4 / Int32.toInt64 (lw_n p1 p2 p3 p4) * Int32.toInt64 (lw_n p1 p2 p3 p4)).toInt = _
  rw [Jvm.Kit.i64_rem, Jvm.Kit.i64_of_i32]
/-- the floor -/
def own_f (p1 p2 p3 p4 : Int32) : Int := p2.toInt * ((lw_k p1 p2 p3 p4).toInt - 1) / (lw_n p1 p2 p3 p4).toInt
theorem own_fl (p1 p2 p3 p4 : Int32) : own_f p1 p2 p3 p4 * (lw_n p1 p2 p3 p4).toInt ≤ p2.toInt * ((lw_k p1 p2 p3 p4).toInt - 1) ∧ p2.toInt * ((lw_k p1 p2 p3 p4).toInt - 1) < (own_f p1 p2 p3 p4 + 1) * (lw_n p1 p2 p3 p4).toInt ∧ -2147483648 * 1024 ≤ own_f p1 p2 p3 p4 ∧ own_f p1 p2 p3 p4 ≤ 2147483648 * 1024 := by
  have h := own_n p1 p2 p3 p4
  have hp := own_prod p1 p2 p3 p4
  unfold own_f
  generalize p2.toInt * ((lw_k p1 p2 p3 p4).toInt - 1) = p at *
  generalize (lw_n p1 p2 p3 p4).toInt = n at *
  have q1 := Int.ediv_mul_le p (show n ≠ 0 by omega)
  have q2 := Int.lt_ediv_add_one_mul_self p (show 0 < n by omega)
  have q3 : (-2147483648 * 1024 : Int) ≤ p / n := (Int.le_ediv_iff_mul_le (by omega)).mpr (by
    have : (2147483648 * 1024 : Int) * 1 ≤ 2147483648 * 1024 * n := Int.mul_le_mul_of_nonneg_left (by omega) (by decide)
    omega)
  have q4 : p / n ≤ (2147483648 * 1024 : Int) := by
    refine Int.ediv_le_of_le_mul (by omega) ?_
    have : (2147483648 * 1024 : Int) * 1 ≤ 2147483648 * 1024 * n := Int.mul_le_mul_of_nonneg_left (by omega) (by decide)
    omega
  exact ⟨q1, q2, q3, q4⟩
theorem own_s (p1 p2 p3 p4 : Int32) : Jvm.Free.Fl.NoNaN64 (FP.dsub (lw_cl p1 p2 p3 p4) (lw_op p1 p2 p3 p4)) ∧ Jvm.Free.Fl.NoNaN64 (FP.dmul (FP.dsub (lw_cl p1 p2 p3 p4) (lw_op p1 p2 p3 p4)) (FP.i2d (lw_k p1 p2 p3 p4 - (1 : Int32)))) ∧ Jvm.Free.Fl.NoNaN64 (FP.ddiv (FP.dmul (FP.dsub (lw_cl p1 p2 p3 p4) (lw_op p1 p2 p3 p4)) (FP.i2d (lw_k p1 p2 p3 p4 - (1 : Int32)))) (FP.i2d (lw_n p1 p2 p3 p4))) ∧ Jvm.Free.Fl.NoNaN64 (FP.dadd (lw_op p1 p2 p3 p4) (FP.ddiv (FP.dmul (FP.dsub (lw_cl p1 p2 p3 p4) (lw_op p1 p2 p3 p4)) (FP.i2d (lw_k p1 p2 p3 p4 - (1 : Int32)))) (FP.i2d (lw_n p1 p2 p3 p4)))) := by
  have a1 := p1.toInt_lt; have b1 := p1.le_toInt
  have a2 := p2.toInt_lt; have b2 := p2.le_toInt
  have hp := own_prod p1 p2 p3 p4
  obtain ⟨q1, q2, q3, q4⟩ := own_fl p1 p2 p3 p4
  have e : p1.toInt + p2.toInt - p1.toInt = p2.toInt := by omega
  obtain ⟨h1, h2, ⟨z3, h3⟩, z4, h4, -⟩ := own_core (f := own_f p1 p2 p3 p4) (g := own_f p1 p2 p3 p4 + 1) (k := lw_k p1 p2 p3 p4 - (1 : Int32)) (n := lw_n p1 p2 p3 p4) (own_i2d p1) (own_cl p1 p2 p3 p4) (own_n p1 p2 p3 p4).1 (by omega) (by rw [own_k1, e]; omega) (by rw [own_k1, e]; exact q1) (by rw [own_k1, e]; omega) (by omega) (by omega) (by omega) (by omega)
  exact ⟨h1.nn, h2.nn, h3.nn, h4.nn⟩
/-- where the start lies -/
theorem own_at (p1 p2 p3 p4 : Int32) : ∃ z, own_Fin (lw_s p1 p2 p3 p4) z ∧ (p1.toInt + own_f p1 p2 p3 p4) * own_U ≤ z ∧ z ≤ (p1.toInt + own_f p1 p2 p3 p4 + (if own_f p1 p2 p3 p4 * (lw_n p1 p2 p3 p4).toInt = p2.toInt * ((lw_k p1 p2 p3 p4).toInt - 1) then 0 else 1)) * own_U := by
  have a1 := p1.toInt_lt; have b1 := p1.le_toInt
  have a2 := p2.toInt_lt; have b2 := p2.le_toInt
  have hp := own_prod p1 p2 p3 p4
  obtain ⟨q1, q2, q3, q4⟩ := own_fl p1 p2 p3 p4
  have e : p1.toInt + p2.toInt - p1.toInt = p2.toInt := by omega
  by_cases c : own_f p1 p2 p3 p4 * (lw_n p1 p2 p3 p4).toInt = p2.toInt * ((lw_k p1 p2 p3 p4).toInt - 1)
  · obtain ⟨h1, h2, ⟨z3, h3⟩, z4, h4, l, u⟩ := own_core (f := own_f p1 p2 p3 p4) (g := own_f p1 p2 p3 p4) (k := lw_k p1 p2 p3 p4 - (1 : Int32)) (n := lw_n p1 p2 p3 p4) (own_i2d p1) (own_cl p1 p2 p3 p4) (own_n p1 p2 p3 p4).1 (by omega) (by rw [own_k1, e]; omega) (by rw [own_k1, e]; exact q1) (by rw [own_k1, e]; omega) (by omega) (by omega) (by omega) (by omega)
    rw [if_pos c, Int.add_zero]
    exact ⟨z4, h4, l, u⟩
  · obtain ⟨h1, h2, ⟨z3, h3⟩, z4, h4, l, u⟩ := own_core (f := own_f p1 p2 p3 p4) (g := own_f p1 p2 p3 p4 + 1) (k := lw_k p1 p2 p3 p4 - (1 : Int32)) (n := lw_n p1 p2 p3 p4) (own_i2d p1) (own_cl p1 p2 p3 p4) (own_n p1 p2 p3 p4).1 (by omega) (by rw [own_k1, e]; omega) (by rw [own_k1, e]; exact q1) (by rw [own_k1, e]; omega) (by omega) (by omega) (by omega) (by omega)
    rw [if_neg c]
    rw [← Int.add_assoc] at u
    exact ⟨z4, h4, l, u⟩
theorem own_r0 (p1 p2 p3 p4 : Int32) : (lw_r p1 p2 p3 p4).toInt = 0 ↔ own_f p1 p2 p3 p4 * (lw_n p1 p2 p3 p4).toInt = p2.toInt * ((lw_k p1 p2 p3 p4).toInt - 1) := by
  have h := own_n p1 p2 p3 p4
  rw [own_r, own_p]
  exact (own_floor (by omega)).2.2
theorem own_add1 (p1 p2 p3 p4 : Int32) (w : Int64) (h1 : -2147483648 * 1024 - 1 ≤ w.toInt) (h2 : w.toInt ≤ 2147483648 * 1024 + 1) : (Int32.toInt64 p1 + w).toInt = p1.toInt + w.toInt ∧ own_Fin (FP.l2d (Int32.toInt64 p1 + w)) ((p1.toInt + w.toInt) * own_U) := by
  have a1 := p1.toInt_lt; have b1 := p1.le_toInt
  have e : (Int32.toInt64 p1 + w).toInt = p1.toInt + w.toInt := by
    rw [Jvm.Kit.i64_add (by rw [Jvm.Kit.i64_of_i32]; omega) (by rw [Jvm.Kit.i64_of_i32]; omega), Jvm.Kit.i64_of_i32]
  have h := own_l2d (n := Int32.toInt64 p1 + w) (by rw [e]; omega)
  rw [e] at h
  exact ⟨e, h⟩
theorem own_e0 (p1 p2 p3 p4 : Int32) (hr : ifCond.holds .ne (XT.cmpL (lw_r p1 p2 p3 p4) (0 : Int64)) = false) : ifCond.holds .ne (cmpValue (FP.dcmp (lw_s p1 p2 p3 p4) (FP.l2d (Int32.toInt64 p1 + lw_q p1 p2 p3 p4))) .l) = false := by
  have hr0 : (lw_r p1 p2 p3 p4).toInt = 0 := Classical.byContradiction fun q => by rw [own_Lne.mpr q] at hr; cases hr
  have h := own_n p1 p2 p3 p4
  have c := (own_r0 p1 p2 p3 p4).mp hr0
  obtain ⟨q1, q2, q3, q4⟩ := own_fl p1 p2 p3 p4
  obtain ⟨z, hz, l, u⟩ := own_at p1 p2 p3 p4
  rw [if_pos c, Int.add_zero] at u
  have hq : (lw_q p1 p2 p3 p4).toInt = own_f p1 p2 p3 p4 := by
    rw [own_r, own_p] at hr0
    rw [own_q, own_p]
    exact (own_floor (by omega)).1 (Or.inl hr0)
  have hl := (own_add1 p1 p2 p3 p4 (lw_q p1 p2 p3 p4) (by rw [hq]; omega) (by rw [hq]; omega)).2
  rw [(own_if hz.v hl.v .l).2.1, hq]
  exact decide_eq_false (fun k => k (Int.le_antisymm u l))
theorem own_q2 (p1 p2 p3 p4 : Int32) (hr : ifCond.holds .ne (XT.cmpL (lx_r p1 p2 p3 p4) (0 : Int64)) = true) : (lx_q2 p1 p2 p3 p4).toInt = own_f p1 p2 p3 p4 ∧ own_f p1 p2 p3 p4 * (lw_n p1 p2 p3 p4).toInt ≠ p2.toInt * ((lw_k p1 p2 p3 p4).toInt - 1) := by
  have hr0 : (lw_r p1 p2 p3 p4).toInt ≠ 0 := own_Lne.mp hr
  have c : own_f p1 p2 p3 p4 * (lw_n p1 p2 p3 p4).toInt ≠ p2.toInt * ((lw_k p1 p2 p3 p4).toInt - 1) := fun k => hr0 ((own_r0 p1 p2 p3 p4).mpr k)
  refine ⟨?_, c⟩
  have h := own_n p1 p2 p3 p4
  have hp := own_prod p1 p2 p3 p4
  obtain ⟨q1, q2, q3, q4⟩ := own_fl p1 p2 p3 p4
  have fl := own_floor (p := (lw_p p1 p2 p3 p4).toInt) (n := (lw_n p1 p2 p3 p4).toInt) (by omega)
  have ef : own_f p1 p2 p3 p4 = (lw_p p1 p2 p3 p4).toInt / (lw_n p1 p2 p3 p4).toInt := by rw [own_p]; rfl
  rw [own_r] at hr0
  rw [ef]
  by_cases s : 0 ≤ (lw_p p1 p2 p3 p4).toInt
  · rw [show lx_q2 p1 p2 p3 p4 = lw_q p1 p2 p3 p4 from if_pos (own_Lge.mpr s), own_q]
    exact fl.1 (Or.inr s)
  · rw [show lx_q2 p1 p2 p3 p4 = lw_q p1 p2 p3 p4 - (1 : Int64) from if_neg (fun k => s (own_Lge.mp k))]
    have e := fl.2.1 hr0 (by omega)
    rw [← own_q] at e
    rw [← ef] at e ⊢
    rw [Jvm.Kit.i64_sub (by show _ ≤ _ - (1 : Int); omega) (by show _ - (1 : Int) < _; omega)]
    exact e
theorem own_e1 (p1 p2 p3 p4 : Int32) (hr : ifCond.holds .ne (XT.cmpL (lx_r p1 p2 p3 p4) (0 : Int64)) = true) : ifCond.holds .gt (cmpValue (FP.dcmp (lx_lo p1 p2 p3 p4) (lx_s p1 p2 p3 p4)) .g) = false := by
  obtain ⟨e, c⟩ := own_q2 p1 p2 p3 p4 hr
  obtain ⟨q1, q2, q3, q4⟩ := own_fl p1 p2 p3 p4
  obtain ⟨z, hz, l, u⟩ := own_at p1 p2 p3 p4
  have hl := (own_add1 p1 p2 p3 p4 (lx_q2 p1 p2 p3 p4) (by rw [e]; omega) (by rw [e]; omega)).2
  rw [e] at hl
  rw [show ifCond.holds .gt (cmpValue (FP.dcmp (lx_lo p1 p2 p3 p4) (lx_s p1 p2 p3 p4)) .g) = _ from (own_if hl.v hz.v .g).2.2.2.2.1]
  exact decide_eq_false (by omega)
theorem own_e2 (p1 p2 p3 p4 : Int32) (hr : ifCond.holds .ne (XT.cmpL (lx_r p1 p2 p3 p4) (0 : Int64)) = true) : ifCond.holds .gt (cmpValue (FP.dcmp (lx_s p1 p2 p3 p4) (lx_hi p1 p2 p3 p4)) .g) = false := by
  obtain ⟨e, c⟩ := own_q2 p1 p2 p3 p4 hr
  have a1 := p1.toInt_lt; have b1 := p1.le_toInt
  obtain ⟨q1, q2, q3, q4⟩ := own_fl p1 p2 p3 p4
  obtain ⟨z, hz, l, u⟩ := own_at p1 p2 p3 p4
  rw [if_neg c] at u
  have h1 := (own_add1 p1 p2 p3 p4 (lx_q2 p1 p2 p3 p4) (by rw [e]; omega) (by rw [e]; omega)).1
  rw [e] at h1
  have e2 : (Int32.toInt64 p1 + lx_q2 p1 p2 p3 p4 + (1 : Int64)).toInt = p1.toInt + own_f p1 p2 p3 p4 + 1 := by
    rw [Jvm.Kit.i64_add (by rw [h1]; show _ ≤ _ + (1 : Int); omega) (by rw [h1]; show _ + (1 : Int) < _; omega), h1]; rfl
  have hl := own_l2d (n := Int32.toInt64 p1 + lx_q2 p1 p2 p3 p4 + (1 : Int64)) (by rw [e2]; omega)
  rw [e2] at hl
  rw [show ifCond.holds .gt (cmpValue (FP.dcmp (lx_s p1 p2 p3 p4) (lx_hi p1 p2 p3 p4)) .g) = _ from (own_if hz.v hl.v .g).2.2.2.2.1]
  exact decide_eq_false (by omega)
theorem d1_0 : decode prog_17_method_1_code 0 = .ok (.aload_n 0, 1) := by decide +kernel
theorem d1_1 : decode prog_17_method_1_code 1 = .ok (.invokespecial 1, 3) := by decide +kernel
theorem d1_4 : decode prog_17_method_1_code 4 = .ok (.iload 5, 2) := by decide +kernel
theorem d1_6 : decode prog_17_method_1_code 6 = .ok (.iconst 1, 1) := by decide +kernel
theorem d1_7 : decode prog_17_method_1_code 7 = .ok (.if_icmp .ge 18, 3) := by decide +kernel
theorem d1_10 : decode prog_17_method_1_code 10 = .ok (.new 7, 3) := by decide +kernel
theorem d1_13 : decode prog_17_method_1_code 13 = .ok (.dup, 1) := by decide +kernel
theorem d1_14 : decode prog_17_method_1_code 14 = .ok (.iload 5, 2) := by decide +kernel
theorem d1_16 : decode prog_17_method_1_code 16 = .ok (.invokedynamic 9, 5) := by decide +kernel
theorem d1_21 : decode prog_17_method_1_code 21 = .ok (.invokespecial 13, 3) := by decide +kernel
theorem d1_24 : decode prog_17_method_1_code 24 = .ok (.athrow, 1) := by decide +kernel
theorem d1_25 : decode prog_17_method_1_code 25 = .ok (.aload_n 0, 1) := by decide +kernel
theorem d1_26 : decode prog_17_method_1_code 26 = .ok (.dload_n 1, 1) := by decide +kernel
theorem d1_27 : decode prog_17_method_1_code 27 = .ok (.putfield 16, 3) := by decide +kernel
theorem d1_30 : decode prog_17_method_1_code 30 = .ok (.aload_n 0, 1) := by decide +kernel
theorem d1_31 : decode prog_17_method_1_code 31 = .ok (.dload_n 3, 1) := by decide +kernel
theorem d1_32 : decode prog_17_method_1_code 32 = .ok (.putfield 22, 3) := by decide +kernel
theorem d1_35 : decode prog_17_method_1_code 35 = .ok (.aload_n 0, 1) := by decide +kernel
theorem d1_36 : decode prog_17_method_1_code 36 = .ok (.iload 5, 2) := by decide +kernel
theorem d1_38 : decode prog_17_method_1_code 38 = .ok (.putfield 25, 3) := by decide +kernel
theorem d1_41 : decode prog_17_method_1_code 41 = .ok (.return_, 1) := by decide +kernel
theorem d2_0 : decode jdk_30_method_1_code 0 = .ok (.aload_n 0, 1) := by decide +kernel
theorem d2_1 : decode jdk_30_method_1_code 1 = .ok (.invokespecial 1, 3) := by decide +kernel
theorem d2_4 : decode jdk_30_method_1_code 4 = .ok (.return_, 1) := by decide +kernel
theorem d4_0 : decode prog_17_method_3_code 0 = .ok (.iload_n 1, 1) := by decide +kernel
theorem d4_1 : decode prog_17_method_3_code 1 = .ok (.iconst 1, 1) := by decide +kernel
theorem d4_2 : decode prog_17_method_3_code 2 = .ok (.if_icmp .lt 11, 3) := by decide +kernel
theorem d4_5 : decode prog_17_method_3_code 5 = .ok (.iload_n 1, 1) := by decide +kernel
theorem d4_6 : decode prog_17_method_3_code 6 = .ok (.aload_n 0, 1) := by decide +kernel
theorem d4_7 : decode prog_17_method_3_code 7 = .ok (.getfield 25, 3) := by decide +kernel
theorem d4_10 : decode prog_17_method_3_code 10 = .ok (.if_icmp .le 21, 3) := by decide +kernel
theorem d4_13 : decode prog_17_method_3_code 13 = .ok (.new 7, 3) := by decide +kernel
theorem d4_16 : decode prog_17_method_3_code 16 = .ok (.dup, 1) := by decide +kernel
theorem d4_17 : decode prog_17_method_3_code 17 = .ok (.iload_n 1, 1) := by decide +kernel
theorem d4_18 : decode prog_17_method_3_code 18 = .ok (.aload_n 0, 1) := by decide +kernel
theorem d4_19 : decode prog_17_method_3_code 19 = .ok (.getfield 25, 3) := by decide +kernel
theorem d4_22 : decode prog_17_method_3_code 22 = .ok (.invokedynamic 41, 5) := by decide +kernel
theorem d4_27 : decode prog_17_method_3_code 27 = .ok (.invokespecial 13, 3) := by decide +kernel
theorem d4_30 : decode prog_17_method_3_code 30 = .ok (.athrow, 1) := by decide +kernel
theorem d4_31 : decode prog_17_method_3_code 31 = .ok (.aload_n 0, 1) := by decide +kernel
theorem d4_32 : decode prog_17_method_3_code 32 = .ok (.iload_n 1, 1) := by decide +kernel
theorem d4_33 : decode prog_17_method_3_code 33 = .ok (.iconst 1, 1) := by decide +kernel
theorem d4_34 : decode prog_17_method_3_code 34 = .ok (.isub, 1) := by decide +kernel
theorem d4_35 : decode prog_17_method_3_code 35 = .ok (.invokevirtual 44, 3) := by decide +kernel
theorem d4_38 : decode prog_17_method_3_code 38 = .ok (.dreturn, 1) := by decide +kernel
theorem d5_0 : decode prog_17_method_4_code 0 = .ok (.iload_n 1, 1) := by decide +kernel
theorem d5_1 : decode prog_17_method_4_code 1 = .ok (.aload_n 0, 1) := by decide +kernel
theorem d5_2 : decode prog_17_method_4_code 2 = .ok (.getfield 25, 3) := by decide +kernel
theorem d5_5 : decode prog_17_method_4_code 5 = .ok (.if_icmp .ne 8, 3) := by decide +kernel
theorem d5_8 : decode prog_17_method_4_code 8 = .ok (.aload_n 0, 1) := by decide +kernel
theorem d5_9 : decode prog_17_method_4_code 9 = .ok (.getfield 22, 3) := by decide +kernel
theorem d5_12 : decode prog_17_method_4_code 12 = .ok (.dreturn, 1) := by decide +kernel
theorem d5_13 : decode prog_17_method_4_code 13 = .ok (.aload_n 0, 1) := by decide +kernel
theorem d5_14 : decode prog_17_method_4_code 14 = .ok (.getfield 16, 3) := by decide +kernel
theorem d5_17 : decode prog_17_method_4_code 17 = .ok (.aload_n 0, 1) := by decide +kernel
theorem d5_18 : decode prog_17_method_4_code 18 = .ok (.getfield 22, 3) := by decide +kernel
theorem d5_21 : decode prog_17_method_4_code 21 = .ok (.aload_n 0, 1) := by decide +kernel
theorem d5_22 : decode prog_17_method_4_code 22 = .ok (.getfield 16, 3) := by decide +kernel
theorem d5_25 : decode prog_17_method_4_code 25 = .ok (.dsub, 1) := by decide +kernel
theorem d5_26 : decode prog_17_method_4_code 26 = .ok (.iload_n 1, 1) := by decide +kernel
theorem d5_27 : decode prog_17_method_4_code 27 = .ok (.i2d, 1) := by decide +kernel
theorem d5_28 : decode prog_17_method_4_code 28 = .ok (.dmul, 1) := by decide +kernel
theorem d5_29 : decode prog_17_method_4_code 29 = .ok (.aload_n 0, 1) := by decide +kernel
theorem d5_30 : decode prog_17_method_4_code 30 = .ok (.getfield 25, 3) := by decide +kernel
theorem d5_33 : decode prog_17_method_4_code 33 = .ok (.i2d, 1) := by decide +kernel
theorem d5_34 : decode prog_17_method_4_code 34 = .ok (.ddiv, 1) := by decide +kernel
theorem d5_35 : decode prog_17_method_4_code 35 = .ok (.dadd, 1) := by decide +kernel
theorem d5_36 : decode prog_17_method_4_code 36 = .ok (.dreturn, 1) := by decide +kernel
theorem pn_0 : plainName "java/lang/Record" = true := by first | (simp [plainName, overriddenIn]; done) | decide +kernel
theorem pn_1 : plainName "com/example/trailhive/trailhive/DaySlices" = true := by first | (simp [plainName, overriddenIn]; done) | decide +kernel
theorem pn_2 : plainName "com/example/trailhive/trailhive/DaySlicesStartPinLaw" = true := by first | (simp [plainName, overriddenIn]; done) | decide +kernel
theorem pd_0 : parseMethodDescriptor "()V" = some ⟨[], none⟩ := by decide +kernel
theorem pd_1 : parseMethodDescriptor "(I)D" = some ⟨[.int], some .double⟩ := by decide +kernel
theorem pd_2 : parseMethodDescriptor "(DDI)V" = some ⟨[.double, .double, .int], none⟩ := by decide +kernel
theorem ef_rc (m : MethodId) (a1 : Addr) : entryFrame m #[(.ref a1)] 1 = (mkF m 0 #[.val (.ref a1)] []) := by first | (simp [entryFrame, mkF, argsToLocals, Value.category]; done) | rfl
def Q_rc (Z : State) (a1 : Addr)  (h0 : Heap) (n0 : Nat) (v : Option Value) (h : Heap) (L : List Loc) : Prop := v = none ∧ Fr n0 L ∧ h = h0
set_option maxRecDepth 65536 in
set_option maxHeartbeats 40000000 in
theorem rm_rc (l : Launch) (Z : State) (a0 : Array Value) (hw : ∀ d ∈ tables_1, d.before a0 Z = true) (ws : List Jvm.Cond) (a1 : Addr)  (h0 : Heap) (n0 : Nat) (Z0 : n0 ≤ h0.size)    :
    MetFree l (⟨"java/lang/Record", "<init>", "()V"⟩ : MethodName) (head1 (Jvm.Cond.code (⟨"java/lang/Record", "<init>", "()V"⟩ : MethodName) jdk_30_method_1_code 1 none :: ws) ({ frames := 1, cells := 0, slots := 0, locals := 12 } : Room)) (fun a U => a = #[(.ref a1)] ∧ Z.Warmed39 U.vm ∧ U.heap = h0) (fun _ _ _ _ _ => True) (fun _ U o U' => ∃ v L, o = .returned v ∧ Q_rc Z a1  h0 n0 v U'.heap L ∧ FrameEnd U o U' L ({ frames := 1, cells := 0, slots := 0, locals := 12 } : Room).cells ({ frames := 1, cells := 0, slots := 0, locals := 12 } : Room).slots) := by
  refine MetFree.of_bodySF (plainFor_of_name pn_0) hisR ?_
  intro p e s m args below meth c s₁ Bd hml0 hP hK
  obtain ⟨rfl, hZ, hh⟩ := hP
  have hx := Bd.exec
  have hby := Bd.bytes
  have hml : c.maxLocals = 1 := hml0
  have hown : s.vm.findClass "java/lang/Record" = some m.cls := findClass_of_methodNamed Bd.named
  have hnm := (name_of_methodNamed Bd.named Bd.method).1
  have X0 : Stand p l e ({ frames := 1, cells := 0, slots := 0, locals := 12 } : Room) s m #[(.ref a1)] below meth c s₁ [] 0 0 := Stand.of_body Bd
  have e0 : s₁.heap = h0 := by rw [← hh, Bd.state]; rfl
  have N0 := Fr.nil n0
  have pre0 : ∀ t, Steps p.tables e below (s₁.setTop (mkF m 0 #[.val (.ref a1)] [])) t → Steps p.tables e below (s₁.setTop (entryFrame m #[(.ref a1)] 1)) t := fun t k => castTop (ef_rc m a1) k
  obtain ⟨T1, X1, e1, st1⟩ := initO X0 hx hZ hown (hw _ (List.mem_of_getElem? (i := 12) rfl)) (hw _ (List.mem_of_getElem? (i := 13) rfl)) (hw _ (List.mem_of_getElem? (i := 14) rfl)) e0 (g := (mkF m 1 #[.val (.ref a1)] [(.ref a1)])) rfl (by rw [hml]; rfl) rfl (hb hby d2_1) (by decide) (W := 0) (by show 2 * 0 + _ ≤ _; exact Nat.le_of_eq rfl) (by decide)
  obtain ⟨fs, hr, hrun, hended, hW, hsame⟩ := X1.leave (v := none) (fun _ => rfl)
  refine ⟨_, _, pre0 _ ?_, hrun, hended, _, _, rfl, ?_, ⟨_, rfl⟩, hW, hsame.mono (Nat.le_of_ble_eq_true rfl) (Nat.le_of_ble_eq_true rfl)⟩
  · show Steps p.tables e below (s₁.setTop (mkF m 0 #[.val (.ref a1)] [])) _
    refine XS.aloadN X0.here hx rfl (hb hby d2_0) rfl rfl ?_
    show Steps p.tables e below (s₁.setTop (mkF m 1 #[.val (.ref a1)] [(.ref a1)])) _
    refine st1 _ ?_
    show Steps p.tables e below (T1.setTop (mkF m 4 #[.val (.ref a1)] [])) _
    exact X1.returnOut hx Bd.returns (hb hby d2_4) hr
  · show Q_rc Z a1  h0 n0 _ T1.heap _
    exact ⟨rfl, N0, e1⟩
theorem ef_ini (m : MethodId) (a1 : Addr) (d1 : UInt64) (d2 : UInt64) (i1 : Int32) : entryFrame m #[(.ref a1), (.double d1), (.double d2), (.int i1)] 6 = (mkF m 0 #[.val (.ref a1), .val (.double d1), .second, .val (.double d2), .second, .val (.int i1)] []) := by first | (simp [entryFrame, mkF, argsToLocals, Value.category]; done) | rfl
def Q_ini (Z : State) (a1 : Addr) (d1 : UInt64) (d2 : UInt64) (i1 : Int32)  (h0 : Heap) (n0 : Nat) (v : Option Value) (h : Heap) (L : List Loc) : Prop := v = none ∧ Fr n0 L ∧ Keep h0 h [a1] ∧ (Exa Z h a1 "com/example/trailhive/trailhive/DaySlices") ∧ (Fld Z h a1 "com/example/trailhive/trailhive/DaySlices" "opens" "D" (.double d1)) ∧ (Fld Z h a1 "com/example/trailhive/trailhive/DaySlices" "closes" "D" (.double d2)) ∧ (Fld Z h a1 "com/example/trailhive/trailhive/DaySlices" "count" "I" (.int i1))
set_option maxRecDepth 65536 in
set_option maxHeartbeats 40000000 in
theorem rm_ini (l : Launch) (Z : State) (a0 : Array Value) (hw : ∀ d ∈ tables_1, d.before a0 Z = true) (ws : List Jvm.Cond) (a1 : Addr) (d1 : UInt64) (d2 : UInt64) (i1 : Int32)  (h0 : Heap) (n0 : Nat) (Z0 : n0 ≤ h0.size) (k0_ : Fld Z h0 a1 "com/example/trailhive/trailhive/DaySlices" "opens" "D" (.double (0 : UInt64))) (k1_ : Fld Z h0 a1 "com/example/trailhive/trailhive/DaySlices" "closes" "D" (.double (0 : UInt64))) (k2_ : Fld Z h0 a1 "com/example/trailhive/trailhive/DaySlices" "count" "I" (.int (0 : Int32))) (k3_ : Exa Z h0 a1 "com/example/trailhive/trailhive/DaySlices") (k4_ : n0 ≤ a1) (hge : if_icmp.holds .ge i1 (1 : Int32) = true)  :
    MetFree l (⟨"com/example/trailhive/trailhive/DaySlices", "<init>", "(DDI)V"⟩ : MethodName) (head1 (Jvm.Cond.code (⟨"com/example/trailhive/trailhive/DaySlices", "<init>", "(DDI)V"⟩ : MethodName) prog_17_method_1_code 6 none :: ws) ({ frames := 2, cells := 0, slots := 0, locals := 24 } : Room)) (fun a U => a = #[(.ref a1), (.double d1), (.double d2), (.int i1)] ∧ Z.Warmed39 U.vm ∧ U.heap = h0) (fun _ _ _ _ _ => True) (fun _ U o U' => ∃ v L, o = .returned v ∧ Q_ini Z a1 d1 d2 i1  h0 n0 v U'.heap L ∧ FrameEnd U o U' L ({ frames := 2, cells := 0, slots := 0, locals := 24 } : Room).cells ({ frames := 2, cells := 0, slots := 0, locals := 24 } : Room).slots) := by
  refine MetFree.of_bodySF (plainFor_of_name pn_1) hisR ?_
  intro p e s m args below meth c s₁ Bd hml0 hP hK
  obtain ⟨rfl, hZ, hh⟩ := hP
  have hx := Bd.exec
  have hby := Bd.bytes
  have hml : c.maxLocals = 6 := hml0
  have hown : s.vm.findClass "com/example/trailhive/trailhive/DaySlices" = some m.cls := findClass_of_methodNamed Bd.named
  have hnm := (name_of_methodNamed Bd.named Bd.method).1
  have X0 : Stand p l e ({ frames := 2, cells := 0, slots := 0, locals := 24 } : Room) s m #[(.ref a1), (.double d1), (.double d2), (.int i1)] below meth c s₁ [] 0 0 := Stand.of_body Bd
  have e0 : s₁.heap = h0 := by rw [← hh, Bd.state]; rfl
  have N0 := Fr.nil n0
  have pre0 : ∀ t, Steps p.tables e below (s₁.setTop (mkF m 0 #[.val (.ref a1), .val (.double d1), .second, .val (.double d2), .second, .val (.int i1)] [])) t → Steps p.tables e below (s₁.setTop (entryFrame m #[(.ref a1), (.double d1), (.double d2), (.int i1)] 6)) t := fun t k => castTop (ef_ini m a1 d1 d2 i1) k
  have K0 := Keep.refl h0 [a1]
  obtain ⟨_, _, ⟨T1, L1, k1, n1⟩, -, X1, ⟨Lc1, hQ1, l1, y1, z1⟩, st1⟩ := X0.specialBack hx (y := (⟨"java/lang/Record", "<init>", "()V"⟩ : MethodName)) rfl hown (mvT hZ (hw _ (List.mem_of_getElem? (i := 7) rfl))) (mvT hZ (hw _ (List.mem_of_getElem? (i := 8) rfl))) (mvT hZ (hw _ (List.mem_of_getElem? (i := 11) rfl))) (by decide) (backOf (W := 0) (rm_rc l Z a0 hw [] a1  (h0) n0 Z0  ) hZ (hw _ (List.mem_of_getElem? (i := 11) rfl)) (hw _ (List.mem_of_getElem? (i := 10) rfl)) (by decide) (by decide)) (g := (mkF m 1 #[.val (.ref a1), .val (.double d1), .second, .val (.double d2), .second, .val (.int i1)] [(.ref a1)])) rfl (by rw [hml]; rfl) (Steps.refl _) (a := a1) (argsL := []) (rest := []) (lenOf pd_0 rfl) rfl (by show 2 * 0 + _ ≤ _; exact Nat.le_of_eq rfl) (hb hby d1_1) (fun _ _ => ⟨rfl, e0, (by decide : 0 + 0 ≤ _), (by decide : 0 + 0 ≤ _)⟩)
  dsimp only [Pt.U, Pt.locs, Pt.cells, Pt.slots] at X1 l1 y1 z1 st1 hQ1
  subst l1 y1 z1
  obtain ⟨rfl, N1, e1⟩ := hQ1
  have Nn1 := Fr.app N0 N1
  obtain ⟨T2, h2, X2, e2, W2, st2⟩ := putF X1 hx hZ hown (host := "") (Or.inl (hw _ (List.mem_of_getElem? (i := 15) rfl))) Via.refl e1 k0_ k3_ (Or.inr ⟨(hw _ (List.mem_of_getElem? (i := 16) rfl)), rfl, hnm⟩) (hw _ (List.mem_of_getElem? (i := 2) rfl)) (ty := .double) (by decide) rfl rfl (g := (mkF m 27 #[.val (.ref a1), .val (.double d1), .second, .val (.double d2), .second, .val (.int i1)] [(.double d1), (.ref a1)])) rfl rfl (hb hby d1_27)
  have Nn2 := Fr.snoc X2 Nn1 k4_
  have q3 : Fld Z h2 a1 "com/example/trailhive/trailhive/DaySlices" "closes" "D" (.double (0 : UInt64)) := (k1_.other W2 (Or.inr (slot_ne (a0 := a0) (C := "com/example/trailhive/trailhive/DaySlices") (Or.inr (hw _ (List.mem_of_getElem? (i := 18) rfl))) (Or.inr (hw _ (List.mem_of_getElem? (i := 16) rfl))) (by decide) (t := .double) (t' := .double) (by decide) (by decide))))
  have q4 : Fld Z h2 a1 "com/example/trailhive/trailhive/DaySlices" "count" "I" (.int (0 : Int32)) := (k2_.other W2 (Or.inr (slot_ne (a0 := a0) (C := "com/example/trailhive/trailhive/DaySlices") (Or.inr (hw _ (List.mem_of_getElem? (i := 20) rfl))) (Or.inr (hw _ (List.mem_of_getElem? (i := 16) rfl))) (by decide) (t := .int) (t' := .double) (by decide) (by decide))))
  have q5 : Exa Z h2 a1 "com/example/trailhive/trailhive/DaySlices" := (k3_.wr W2)
  have q2n : Fld Z h2 a1 "com/example/trailhive/trailhive/DaySlices" "opens" "D" (.double d1) := (k0_.same W2)
  have K2 := K0.wr W2 (Or.inl (List.mem_of_getElem? (i := 0) rfl))
  have Z2 : n0 ≤ h2.size := Nat.le_trans Z0 (Keep.of_wr W2).1
  obtain ⟨T6, h6, X6, e6, W6, st6⟩ := putF X2 hx hZ hown (host := "") (Or.inl (hw _ (List.mem_of_getElem? (i := 17) rfl))) Via.refl e2 q3 q5 (Or.inr ⟨(hw _ (List.mem_of_getElem? (i := 18) rfl)), rfl, hnm⟩) (hw _ (List.mem_of_getElem? (i := 2) rfl)) (ty := .double) (by decide) rfl rfl (g := (mkF m 32 #[.val (.ref a1), .val (.double d1), .second, .val (.double d2), .second, .val (.int i1)] [(.double d2), (.ref a1)])) rfl rfl (hb hby d1_32)
  have Nn6 := Fr.snoc X6 Nn2 k4_
  have q7 : Fld Z h6 a1 "com/example/trailhive/trailhive/DaySlices" "count" "I" (.int (0 : Int32)) := (q4.other W6 (Or.inr (slot_ne (a0 := a0) (C := "com/example/trailhive/trailhive/DaySlices") (Or.inr (hw _ (List.mem_of_getElem? (i := 20) rfl))) (Or.inr (hw _ (List.mem_of_getElem? (i := 18) rfl))) (by decide) (t := .int) (t' := .double) (by decide) (by decide))))
  have q8 : Exa Z h6 a1 "com/example/trailhive/trailhive/DaySlices" := (q5.wr W6)
  have q9 : Fld Z h6 a1 "com/example/trailhive/trailhive/DaySlices" "opens" "D" (.double d1) := (q2n.other W6 (Or.inr (slot_ne (a0 := a0) (C := "com/example/trailhive/trailhive/DaySlices") (Or.inr (hw _ (List.mem_of_getElem? (i := 16) rfl))) (Or.inr (hw _ (List.mem_of_getElem? (i := 18) rfl))) (by decide) (t := .double) (t' := .double) (by decide) (by decide))))
  have q6n : Fld Z h6 a1 "com/example/trailhive/trailhive/DaySlices" "closes" "D" (.double d2) := (q3.same W6)
  have K6 := K2.wr W6 (Or.inl (List.mem_of_getElem? (i := 0) rfl))
  have Z6 : n0 ≤ h6.size := Nat.le_trans Z2 (Keep.of_wr W6).1
  obtain ⟨T10, h10, X10, e10, W10, st10⟩ := putF X6 hx hZ hown (host := "") (Or.inl (hw _ (List.mem_of_getElem? (i := 19) rfl))) Via.refl e6 q7 q8 (Or.inr ⟨(hw _ (List.mem_of_getElem? (i := 20) rfl)), rfl, hnm⟩) (hw _ (List.mem_of_getElem? (i := 2) rfl)) (ty := .int) (by decide) rfl rfl (g := (mkF m 38 #[.val (.ref a1), .val (.double d1), .second, .val (.double d2), .second, .val (.int i1)] [(.int i1), (.ref a1)])) rfl rfl (hb hby d1_38)
  have Nn10 := Fr.snoc X10 Nn6 k4_
  have q11 : Exa Z h10 a1 "com/example/trailhive/trailhive/DaySlices" := (q8.wr W10)
  have q12 : Fld Z h10 a1 "com/example/trailhive/trailhive/DaySlices" "opens" "D" (.double d1) := (q9.other W10 (Or.inr (slot_ne (a0 := a0) (C := "com/example/trailhive/trailhive/DaySlices") (Or.inr (hw _ (List.mem_of_getElem? (i := 16) rfl))) (Or.inr (hw _ (List.mem_of_getElem? (i := 20) rfl))) (by decide) (t := .double) (t' := .int) (by decide) (by decide))))
  have q13 : Fld Z h10 a1 "com/example/trailhive/trailhive/DaySlices" "closes" "D" (.double d2) := (q6n.other W10 (Or.inr (slot_ne (a0 := a0) (C := "com/example/trailhive/trailhive/DaySlices") (Or.inr (hw _ (List.mem_of_getElem? (i := 18) rfl))) (Or.inr (hw _ (List.mem_of_getElem? (i := 20) rfl))) (by decide) (t := .double) (t' := .int) (by decide) (by decide))))
  have q10n : Fld Z h10 a1 "com/example/trailhive/trailhive/DaySlices" "count" "I" (.int i1) := (q7.same W10)
  have K10 := K6.wr W10 (Or.inl (List.mem_of_getElem? (i := 0) rfl))
  have Z10 : n0 ≤ h10.size := Nat.le_trans Z6 (Keep.of_wr W10).1
  obtain ⟨fs, hr, hrun, hended, hW, hsame⟩ := X10.leave (v := none) (fun _ => rfl)
  refine ⟨_, _, pre0 _ ?_, hrun, hended, _, _, rfl, ?_, ⟨_, rfl⟩, hW, hsame.mono (Nat.le_of_ble_eq_true rfl) (Nat.le_of_ble_eq_true rfl)⟩
  · show Steps p.tables e below (s₁.setTop (mkF m 0 #[.val (.ref a1), .val (.double d1), .second, .val (.double d2), .second, .val (.int i1)] [])) _
    refine XS.aloadN X0.here hx rfl (hb hby d1_0) rfl rfl ?_
    show Steps p.tables e below (s₁.setTop (mkF m 1 #[.val (.ref a1), .val (.double d1), .second, .val (.double d2), .second, .val (.int i1)] [(.ref a1)])) _
    refine st1.trans ?_
    show Steps p.tables e below (T1.setTop (mkF m 4 #[.val (.ref a1), .val (.double d1), .second, .val (.double d2), .second, .val (.int i1)] [])) _
    refine XS.iload X1.here hx rfl (hb hby d1_4) rfl ?_
    show Steps p.tables e below (T1.setTop (mkF m 6 #[.val (.ref a1), .val (.double d1), .second, .val (.double d2), .second, .val (.int i1)] [(.int i1)])) _
    refine XS.iconst X1.here hx rfl (hb hby d1_6) ?_
    show Steps p.tables e below (T1.setTop (mkF m 7 #[.val (.ref a1), .val (.double d1), .second, .val (.double d2), .second, .val (.int i1)] [(.int (1 : Int32)), (.int i1)])) _
    refine XS.icmpYes X1.here hx rfl (pc0 := 7) (pc' := 25) rfl (hb hby d1_7) rfl hge (by decide) (by decide) ?_
    show Steps p.tables e below (T1.setTop (mkF m 25 #[.val (.ref a1), .val (.double d1), .second, .val (.double d2), .second, .val (.int i1)] [])) _
    refine XS.aloadN X1.here hx rfl (hb hby d1_25) rfl rfl ?_
    show Steps p.tables e below (T1.setTop (mkF m 26 #[.val (.ref a1), .val (.double d1), .second, .val (.double d2), .second, .val (.int i1)] [(.ref a1)])) _
    refine XS.dloadN X1.here hx rfl (hb hby d1_26) rfl ?_
    show Steps p.tables e below (T1.setTop (mkF m 27 #[.val (.ref a1), .val (.double d1), .second, .val (.double d2), .second, .val (.int i1)] [(.double d1), (.ref a1)])) _
    refine st2 _ ?_
    show Steps p.tables e below (T2.setTop (mkF m 30 #[.val (.ref a1), .val (.double d1), .second, .val (.double d2), .second, .val (.int i1)] [])) _
    refine XS.aloadN X2.here hx rfl (hb hby d1_30) rfl rfl ?_
    show Steps p.tables e below (T2.setTop (mkF m 31 #[.val (.ref a1), .val (.double d1), .second, .val (.double d2), .second, .val (.int i1)] [(.ref a1)])) _
    refine XS.dloadN X2.here hx rfl (hb hby d1_31) rfl ?_
    show Steps p.tables e below (T2.setTop (mkF m 32 #[.val (.ref a1), .val (.double d1), .second, .val (.double d2), .second, .val (.int i1)] [(.double d2), (.ref a1)])) _
    refine st6 _ ?_
    show Steps p.tables e below (T6.setTop (mkF m 35 #[.val (.ref a1), .val (.double d1), .second, .val (.double d2), .second, .val (.int i1)] [])) _
    refine XS.aloadN X6.here hx rfl (hb hby d1_35) rfl rfl ?_
    show Steps p.tables e below (T6.setTop (mkF m 36 #[.val (.ref a1), .val (.double d1), .second, .val (.double d2), .second, .val (.int i1)] [(.ref a1)])) _
    refine XS.iload X6.here hx rfl (hb hby d1_36) rfl ?_
    show Steps p.tables e below (T6.setTop (mkF m 38 #[.val (.ref a1), .val (.double d1), .second, .val (.double d2), .second, .val (.int i1)] [(.int i1), (.ref a1)])) _
    refine st10 _ ?_
    show Steps p.tables e below (T10.setTop (mkF m 41 #[.val (.ref a1), .val (.double d1), .second, .val (.double d2), .second, .val (.int i1)] [])) _
    exact X10.returnOut hx Bd.returns (hb hby d1_41) hr
  · show Q_ini Z a1 d1 d2 i1  h0 n0 _ T10.heap _
    rw [e10]
    exact ⟨rfl, Nn10, K10, q11, q12, q13, q10n⟩
theorem ef_b2 (m : MethodId) (a1 : Addr) (i1 : Int32) : entryFrame m #[(.ref a1), (.int i1)] 2 = (mkF m 0 #[.val (.ref a1), .val (.int i1)] []) := by first | (simp [entryFrame, mkF, argsToLocals, Value.category]; done) | rfl
def Q_b2 (Z : State) (a1 : Addr) (i1 : Int32) (d8 : UInt64) (d9 : UInt64) (i9 : Int32) (h0 : Heap) (n0 : Nat) (v : Option Value) (h : Heap) (L : List Loc) : Prop := v = some (.double (FP.dadd d8 (FP.ddiv (FP.dmul (FP.dsub d9 d8) (FP.i2d i1)) (FP.i2d i9)))) ∧ Fr n0 L ∧ h = h0
set_option maxRecDepth 65536 in
set_option maxHeartbeats 40000000 in
theorem rm_b2 (l : Launch) (Z : State) (a0 : Array Value) (hw : ∀ d ∈ tables_1, d.before a0 Z = true) (ws : List Jvm.Cond) (a1 : Addr) (i1 : Int32) (d8 : UInt64) (d9 : UInt64) (i9 : Int32) (h0 : Heap) (n0 : Nat) (Z0 : n0 ≤ h0.size) (k0_ : Fld Z h0 a1 "com/example/trailhive/trailhive/DaySlices" "opens" "D" (.double d8)) (k1_ : Fld Z h0 a1 "com/example/trailhive/trailhive/DaySlices" "closes" "D" (.double d9)) (k2_ : Fld Z h0 a1 "com/example/trailhive/trailhive/DaySlices" "count" "I" (.int i9)) (hc : if_icmp.holds .ne i1 i9 = true) (nn25 : Jvm.Free.Fl.NoNaN64 (FP.dsub d9 d8)) (nn28 : Jvm.Free.Fl.NoNaN64 (FP.dmul (FP.dsub d9 d8) (FP.i2d i1))) (nn34 : Jvm.Free.Fl.NoNaN64 (FP.ddiv (FP.dmul (FP.dsub d9 d8) (FP.i2d i1)) (FP.i2d i9))) (nn35 : Jvm.Free.Fl.NoNaN64 (FP.dadd d8 (FP.ddiv (FP.dmul (FP.dsub d9 d8) (FP.i2d i1)) (FP.i2d i9)))) :
    MetFree l (⟨"com/example/trailhive/trailhive/DaySlices", "boundary", "(I)D"⟩ : MethodName) (head1 (Jvm.Cond.code (⟨"com/example/trailhive/trailhive/DaySlices", "boundary", "(I)D"⟩ : MethodName) prog_17_method_4_code 2 (some .double) :: ws) ({ frames := 0, cells := 0, slots := 0, locals := 0 } : Room)) (fun a U => a = #[(.ref a1), (.int i1)] ∧ Z.Warmed39 U.vm ∧ U.heap = h0) (fun _ _ _ _ _ => True) (fun _ U o U' => ∃ v L, o = .returned v ∧ Q_b2 Z a1 i1 d8 d9 i9 h0 n0 v U'.heap L ∧ FrameEnd U o U' L ({ frames := 0, cells := 0, slots := 0, locals := 0 } : Room).cells ({ frames := 0, cells := 0, slots := 0, locals := 0 } : Room).slots) := by
  refine MetFree.of_bodySF (plainFor_of_name pn_1) hisR ?_
  intro p e s m args below meth c s₁ Bd hml0 hP hK
  obtain ⟨rfl, hZ, hh⟩ := hP
  have hx := Bd.exec
  have hby := Bd.bytes
  have hml : c.maxLocals = 2 := hml0
  have hown : s.vm.findClass "com/example/trailhive/trailhive/DaySlices" = some m.cls := findClass_of_methodNamed Bd.named
  have hnm := (name_of_methodNamed Bd.named Bd.method).1
  have X0 : Stand p l e ({ frames := 0, cells := 0, slots := 0, locals := 0 } : Room) s m #[(.ref a1), (.int i1)] below meth c s₁ [] 0 0 := Stand.of_body Bd
  have e0 : s₁.heap = h0 := by rw [← hh, Bd.state]; rfl
  have N0 := Fr.nil n0
  have pre0 : ∀ t, Steps p.tables e below (s₁.setTop (mkF m 0 #[.val (.ref a1), .val (.int i1)] [])) t → Steps p.tables e below (s₁.setTop (entryFrame m #[(.ref a1), (.int i1)] 2)) t := fun t k => castTop (ef_b2 m a1 i1) k
  obtain ⟨T1, X1, e1, st1⟩ := getF X0 hx hZ hown (host := "") (Or.inl (hw _ (List.mem_of_getElem? (i := 19) rfl))) Via.refl e0 k2_ (g := (mkF m 2 #[.val (.ref a1), .val (.int i1)] [(.ref a1), (.int i1)])) rfl rfl (hb hby d5_2)
  obtain ⟨T2, X2, e2, st2⟩ := getF X1 hx hZ hown (host := "") (Or.inl (hw _ (List.mem_of_getElem? (i := 15) rfl))) Via.refl e1 k0_ (g := (mkF m 14 #[.val (.ref a1), .val (.int i1)] [(.ref a1)])) rfl rfl (hb hby d5_14)
  obtain ⟨T3, X3, e3, st3⟩ := getF X2 hx hZ hown (host := "") (Or.inl (hw _ (List.mem_of_getElem? (i := 17) rfl))) Via.refl e2 k1_ (g := (mkF m 18 #[.val (.ref a1), .val (.int i1)] [(.ref a1), (.double d8)])) rfl rfl (hb hby d5_18)
  obtain ⟨T4, X4, e4, st4⟩ := getF X3 hx hZ hown (host := "") (Or.inl (hw _ (List.mem_of_getElem? (i := 15) rfl))) Via.refl e3 k0_ (g := (mkF m 22 #[.val (.ref a1), .val (.int i1)] [(.ref a1), (.double d9), (.double d8)])) rfl rfl (hb hby d5_22)
  obtain ⟨T5, X5, e5, st5⟩ := getF X4 hx hZ hown (host := "") (Or.inl (hw _ (List.mem_of_getElem? (i := 19) rfl))) Via.refl e4 k2_ (g := (mkF m 30 #[.val (.ref a1), .val (.int i1)] [(.ref a1), (.double (FP.dmul (FP.dsub d9 d8) (FP.i2d i1))), (.double d8)])) rfl rfl (hb hby d5_30)
  obtain ⟨fs, hr, hrun, hended, hW, hsame⟩ := X5.leave (v := some (.double (FP.dadd d8 (FP.ddiv (FP.dmul (FP.dsub d9 d8) (FP.i2d i1)) (FP.i2d i9))))) (fun h => by rw [Bd.returns] at h; cases h)
  refine ⟨_, _, pre0 _ ?_, hrun, hended, _, _, rfl, ?_, ⟨_, rfl⟩, hW, hsame.mono (Nat.le_of_ble_eq_true rfl) (Nat.le_of_ble_eq_true rfl)⟩
  · show Steps p.tables e below (s₁.setTop (mkF m 0 #[.val (.ref a1), .val (.int i1)] [])) _
    refine XS.iloadN X0.here hx rfl (hb hby d5_0) rfl ?_
    show Steps p.tables e below (s₁.setTop (mkF m 1 #[.val (.ref a1), .val (.int i1)] [(.int i1)])) _
    refine XS.aloadN X0.here hx rfl (hb hby d5_1) rfl rfl ?_
    show Steps p.tables e below (s₁.setTop (mkF m 2 #[.val (.ref a1), .val (.int i1)] [(.ref a1), (.int i1)])) _
    refine st1 _ ?_
    show Steps p.tables e below (T1.setTop (mkF m 5 #[.val (.ref a1), .val (.int i1)] [(.int i9), (.int i1)])) _
    refine XS.icmpYes X1.here hx rfl (pc0 := 5) (pc' := 13) rfl (hb hby d5_5) rfl hc (by decide) (by decide) ?_
    show Steps p.tables e below (T1.setTop (mkF m 13 #[.val (.ref a1), .val (.int i1)] [])) _
    refine XS.aloadN X1.here hx rfl (hb hby d5_13) rfl rfl ?_
    show Steps p.tables e below (T1.setTop (mkF m 14 #[.val (.ref a1), .val (.int i1)] [(.ref a1)])) _
    refine st2 _ ?_
    show Steps p.tables e below (T2.setTop (mkF m 17 #[.val (.ref a1), .val (.int i1)] [(.double d8)])) _
    refine XS.aloadN X2.here hx rfl (hb hby d5_17) rfl rfl ?_
    show Steps p.tables e below (T2.setTop (mkF m 18 #[.val (.ref a1), .val (.int i1)] [(.ref a1), (.double d8)])) _
    refine st3 _ ?_
    show Steps p.tables e below (T3.setTop (mkF m 21 #[.val (.ref a1), .val (.int i1)] [(.double d9), (.double d8)])) _
    refine XS.aloadN X3.here hx rfl (hb hby d5_21) rfl rfl ?_
    show Steps p.tables e below (T3.setTop (mkF m 22 #[.val (.ref a1), .val (.int i1)] [(.ref a1), (.double d9), (.double d8)])) _
    refine st4 _ ?_
    show Steps p.tables e below (T4.setTop (mkF m 25 #[.val (.ref a1), .val (.int i1)] [(.double d8), (.double d9), (.double d8)])) _
    refine XS.dsubS X4.here hx rfl (hb hby d5_25) rfl nn25 rfl ?_
    show Steps p.tables e below (T4.setTop (mkF m 26 #[.val (.ref a1), .val (.int i1)] [(.double (FP.dsub d9 d8)), (.double d8)])) _
    refine XS.iloadN X4.here hx rfl (hb hby d5_26) rfl ?_
    show Steps p.tables e below (T4.setTop (mkF m 27 #[.val (.ref a1), .val (.int i1)] [(.int i1), (.double (FP.dsub d9 d8)), (.double d8)])) _
    refine XS.i2dS X4.here hx rfl (hb hby d5_27) rfl rfl ?_
    show Steps p.tables e below (T4.setTop (mkF m 28 #[.val (.ref a1), .val (.int i1)] [(.double (FP.i2d i1)), (.double (FP.dsub d9 d8)), (.double d8)])) _
    refine XS.dmulS X4.here hx rfl (hb hby d5_28) rfl nn28 rfl ?_
    show Steps p.tables e below (T4.setTop (mkF m 29 #[.val (.ref a1), .val (.int i1)] [(.double (FP.dmul (FP.dsub d9 d8) (FP.i2d i1))), (.double d8)])) _
    refine XS.aloadN X4.here hx rfl (hb hby d5_29) rfl rfl ?_
    show Steps p.tables e below (T4.setTop (mkF m 30 #[.val (.ref a1), .val (.int i1)] [(.ref a1), (.double (FP.dmul (FP.dsub d9 d8) (FP.i2d i1))), (.double d8)])) _
    refine st5 _ ?_
    show Steps p.tables e below (T5.setTop (mkF m 33 #[.val (.ref a1), .val (.int i1)] [(.int i9), (.double (FP.dmul (FP.dsub d9 d8) (FP.i2d i1))), (.double d8)])) _
    refine XS.i2dS X5.here hx rfl (hb hby d5_33) rfl rfl ?_
    show Steps p.tables e below (T5.setTop (mkF m 34 #[.val (.ref a1), .val (.int i1)] [(.double (FP.i2d i9)), (.double (FP.dmul (FP.dsub d9 d8) (FP.i2d i1))), (.double d8)])) _
    refine XS.ddivS X5.here hx rfl (hb hby d5_34) rfl nn34 rfl ?_
    show Steps p.tables e below (T5.setTop (mkF m 35 #[.val (.ref a1), .val (.int i1)] [(.double (FP.ddiv (FP.dmul (FP.dsub d9 d8) (FP.i2d i1)) (FP.i2d i9))), (.double d8)])) _
    refine XS.daddS X5.here hx rfl (hb hby d5_35) rfl nn35 rfl ?_
    show Steps p.tables e below (T5.setTop (mkF m 36 #[.val (.ref a1), .val (.int i1)] [(.double (FP.dadd d8 (FP.ddiv (FP.dmul (FP.dsub d9 d8) (FP.i2d i1)) (FP.i2d i9))))])) _
    exact retOut X5 hx (t := .double) Bd.returns rfl (Or.inr (Or.inr (Or.inl ⟨rfl, rfl, _, rfl⟩))) (hb hby d5_36) hr
  · show Q_b2 Z a1 i1 d8 d9 i9 h0 n0 _ T5.heap _
    exact ⟨rfl, N0, e5⟩
theorem ef_st (m : MethodId) (a1 : Addr) (i1 : Int32) : entryFrame m #[(.ref a1), (.int i1)] 2 = (mkF m 0 #[.val (.ref a1), .val (.int i1)] []) := by first | (simp [entryFrame, mkF, argsToLocals, Value.category]; done) | rfl
def Q_st (Z : State) (a1 : Addr) (i1 : Int32) (d8 : UInt64) (d9 : UInt64) (i9 : Int32) (h0 : Heap) (n0 : Nat) (v : Option Value) (h : Heap) (L : List Loc) : Prop := v = some (.double (FP.dadd d8 (FP.ddiv (FP.dmul (FP.dsub d9 d8) (FP.i2d (i1 - (1 : Int32)))) (FP.i2d i9)))) ∧ Fr n0 L ∧ h = h0
set_option maxRecDepth 65536 in
set_option maxHeartbeats 40000000 in
theorem rm_st (l : Launch) (Z : State) (a0 : Array Value) (hw : ∀ d ∈ tables_1, d.before a0 Z = true) (ws : List Jvm.Cond) (a1 : Addr) (i1 : Int32) (d8 : UInt64) (d9 : UInt64) (i9 : Int32) (h0 : Heap) (n0 : Nat) (Z0 : n0 ≤ h0.size) (k0_ : Exa Z h0 a1 "com/example/trailhive/trailhive/DaySlices") (k1_ : Fld Z h0 a1 "com/example/trailhive/trailhive/DaySlices" "opens" "D" (.double d8)) (k2_ : Fld Z h0 a1 "com/example/trailhive/trailhive/DaySlices" "closes" "D" (.double d9)) (k3_ : Fld Z h0 a1 "com/example/trailhive/trailhive/DaySlices" "count" "I" (.int i9)) (hA : if_icmp.holds .lt i1 (1 : Int32) = false) (hB : if_icmp.holds .le i1 i9 = true) (hC : if_icmp.holds .ne (i1 - (1 : Int32)) i9 = true) (nA : Jvm.Free.Fl.NoNaN64 (FP.dsub d9 d8)) (nB : Jvm.Free.Fl.NoNaN64 (FP.dmul (FP.dsub d9 d8) (FP.i2d (i1 - (1 : Int32))))) (nC : Jvm.Free.Fl.NoNaN64 (FP.ddiv (FP.dmul (FP.dsub d9 d8) (FP.i2d (i1 - (1 : Int32)))) (FP.i2d i9))) (nD : Jvm.Free.Fl.NoNaN64 (FP.dadd d8 (FP.ddiv (FP.dmul (FP.dsub d9 d8) (FP.i2d (i1 - (1 : Int32)))) (FP.i2d i9))))  :
    MetFree l (⟨"com/example/trailhive/trailhive/DaySlices", "start", "(I)D"⟩ : MethodName) (head1 (Jvm.Cond.code (⟨"com/example/trailhive/trailhive/DaySlices", "start", "(I)D"⟩ : MethodName) prog_17_method_3_code 2 (some .double) :: ws) ({ frames := 1, cells := 0, slots := 0, locals := 13 } : Room)) (fun a U => a = #[(.ref a1), (.int i1)] ∧ Z.Warmed39 U.vm ∧ U.heap = h0) (fun _ _ _ _ _ => True) (fun _ U o U' => ∃ v L, o = .returned v ∧ Q_st Z a1 i1 d8 d9 i9 h0 n0 v U'.heap L ∧ FrameEnd U o U' L ({ frames := 1, cells := 0, slots := 0, locals := 13 } : Room).cells ({ frames := 1, cells := 0, slots := 0, locals := 13 } : Room).slots) := by
  refine MetFree.of_bodySF (plainFor_of_name pn_1) hisR ?_
  intro p e s m args below meth c s₁ Bd hml0 hP hK
  obtain ⟨rfl, hZ, hh⟩ := hP
  have hx := Bd.exec
  have hby := Bd.bytes
  have hml : c.maxLocals = 2 := hml0
  have hown : s.vm.findClass "com/example/trailhive/trailhive/DaySlices" = some m.cls := findClass_of_methodNamed Bd.named
  have hnm := (name_of_methodNamed Bd.named Bd.method).1
  have X0 : Stand p l e ({ frames := 1, cells := 0, slots := 0, locals := 13 } : Room) s m #[(.ref a1), (.int i1)] below meth c s₁ [] 0 0 := Stand.of_body Bd
  have e0 : s₁.heap = h0 := by rw [← hh, Bd.state]; rfl
  have N0 := Fr.nil n0
  have pre0 : ∀ t, Steps p.tables e below (s₁.setTop (mkF m 0 #[.val (.ref a1), .val (.int i1)] [])) t → Steps p.tables e below (s₁.setTop (entryFrame m #[(.ref a1), (.int i1)] 2)) t := fun t k => castTop (ef_st m a1 i1) k
  obtain ⟨T1, X1, e1, st1⟩ := getF X0 hx hZ hown (host := "") (Or.inl (hw _ (List.mem_of_getElem? (i := 19) rfl))) Via.refl e0 k3_ (g := (mkF m 7 #[.val (.ref a1), .val (.int i1)] [(.ref a1), (.int i1)])) rfl rfl (hb hby d4_7)
  obtain ⟨cq2, kq2, qa2, qb2, qc2⟩ := isOf hZ e1 k0_
  obtain ⟨_, _, ⟨T2, L2, k2, n2⟩, -, X2, ⟨Lc2, hQ2, l2, y2, z2⟩, st2⟩ := X1.virtualBack hx (y := (⟨"com/example/trailhive/trailhive/DaySlices", "boundary", "(I)D"⟩ : MethodName)) (z := (⟨"com/example/trailhive/trailhive/DaySlices", "boundary", "(I)D"⟩ : MethodName)) hown (mvT hZ (hw _ (List.mem_of_getElem? (i := 26) rfl))) (mvT hZ (hw _ (List.mem_of_getElem? (i := 27) rfl))) (notFace_of_selects (args := #[]) (mvT hZ (hw _ (List.mem_of_getElem? (i := 29) rfl)))) (mvT hZ (hw _ (List.mem_of_getElem? (i := 29) rfl))) (mvT hZ (hw _ (List.mem_of_getElem? (i := 28) rfl))) (by decide) (backOf (W := 0) (rm_b2 l Z a0 hw [] a1 (i1 - (1 : Int32)) d8 d9 i9 (h0) n0 Z0 k1_ k2_ k3_ hC nA nB nC nD) hZ (hw _ (List.mem_of_getElem? (i := 30) rfl)) (hw _ (List.mem_of_getElem? (i := 3) rfl)) (by decide) (by decide)) qa2 qc2 (g := (mkF m 35 #[.val (.ref a1), .val (.int i1)] [(.int (i1 - (1 : Int32))), (.ref a1)])) rfl (by rw [hml]; rfl) (Steps.refl _) (argsL := [(.int (i1 - (1 : Int32)))]) (rest := []) (lenOf pd_1 rfl) rfl (by show 2 * 0 + _ ≤ _; exact Nat.le_of_eq rfl) (hb hby d4_35) (fun _ _ => ⟨rfl, e1, (by decide : 0 + 0 ≤ _), (by decide : 0 + 0 ≤ _)⟩)
  dsimp only [Pt.U, Pt.locs, Pt.cells, Pt.slots] at X2 l2 y2 z2 st2 hQ2
  subst l2 y2 z2
  obtain ⟨rfl, N2, e2⟩ := hQ2
  have Nn2 := Fr.app N0 N2
  obtain ⟨fs, hr, hrun, hended, hW, hsame⟩ := X2.leave (v := some (.double (FP.dadd d8 (FP.ddiv (FP.dmul (FP.dsub d9 d8) (FP.i2d (i1 - (1 : Int32)))) (FP.i2d i9))))) (fun h => by rw [Bd.returns] at h; cases h)
  refine ⟨_, _, pre0 _ ?_, hrun, hended, _, _, rfl, ?_, ⟨_, rfl⟩, hW, hsame.mono (Nat.le_of_ble_eq_true rfl) (Nat.le_of_ble_eq_true rfl)⟩
  · show Steps p.tables e below (s₁.setTop (mkF m 0 #[.val (.ref a1), .val (.int i1)] [])) _
    refine XS.iloadN X0.here hx rfl (hb hby d4_0) rfl ?_
    show Steps p.tables e below (s₁.setTop (mkF m 1 #[.val (.ref a1), .val (.int i1)] [(.int i1)])) _
    refine XS.iconst X0.here hx rfl (hb hby d4_1) ?_
    show Steps p.tables e below (s₁.setTop (mkF m 2 #[.val (.ref a1), .val (.int i1)] [(.int (1 : Int32)), (.int i1)])) _
    refine XS.icmpNo X0.here hx rfl (hb hby d4_2) rfl hA ?_
    show Steps p.tables e below (s₁.setTop (mkF m 5 #[.val (.ref a1), .val (.int i1)] [])) _
    refine XS.iloadN X0.here hx rfl (hb hby d4_5) rfl ?_
    show Steps p.tables e below (s₁.setTop (mkF m 6 #[.val (.ref a1), .val (.int i1)] [(.int i1)])) _
    refine XS.aloadN X0.here hx rfl (hb hby d4_6) rfl rfl ?_
    show Steps p.tables e below (s₁.setTop (mkF m 7 #[.val (.ref a1), .val (.int i1)] [(.ref a1), (.int i1)])) _
    refine st1 _ ?_
    show Steps p.tables e below (T1.setTop (mkF m 10 #[.val (.ref a1), .val (.int i1)] [(.int i9), (.int i1)])) _
    refine XS.icmpYes X1.here hx rfl (pc0 := 10) (pc' := 31) rfl (hb hby d4_10) rfl hB (by decide) (by decide) ?_
    show Steps p.tables e below (T1.setTop (mkF m 31 #[.val (.ref a1), .val (.int i1)] [])) _
    refine XS.aloadN X1.here hx rfl (hb hby d4_31) rfl rfl ?_
    show Steps p.tables e below (T1.setTop (mkF m 32 #[.val (.ref a1), .val (.int i1)] [(.ref a1)])) _
    refine XS.iloadN X1.here hx rfl (hb hby d4_32) rfl ?_
    show Steps p.tables e below (T1.setTop (mkF m 33 #[.val (.ref a1), .val (.int i1)] [(.int i1), (.ref a1)])) _
    refine XS.iconst X1.here hx rfl (hb hby d4_33) ?_
    show Steps p.tables e below (T1.setTop (mkF m 34 #[.val (.ref a1), .val (.int i1)] [(.int (1 : Int32)), (.int i1), (.ref a1)])) _
    refine XS.isub X1.here hx rfl (hb hby d4_34) rfl ?_
    show Steps p.tables e below (T1.setTop (mkF m 35 #[.val (.ref a1), .val (.int i1)] [(.int (i1 - (1 : Int32))), (.ref a1)])) _
    refine st2.trans ?_
    show Steps p.tables e below (T2.setTop (mkF m 38 #[.val (.ref a1), .val (.int i1)] [(.double (FP.dadd d8 (FP.ddiv (FP.dmul (FP.dsub d9 d8) (FP.i2d (i1 - (1 : Int32)))) (FP.i2d i9))))])) _
    exact retOut X2 hx (t := .double) Bd.returns rfl (Or.inr (Or.inr (Or.inl ⟨rfl, rfl, _, rfl⟩))) (hb hby d4_38) hr
  · show Q_st Z a1 i1 d8 d9 i9 h0 n0 _ T2.heap _
    exact ⟨rfl, Nn2, e2⟩
theorem ef_lw (m : MethodId) (p1 : Int32) (p2 : Int32) (p3 : Int32) (p4 : Int32) : entryFrame m #[(.int p1), (.int p2), (.int p3), (.int p4)] maxLocals = (mkF m 0 #[.val (.int p1), .val (.int p2), .val (.int p3), .val (.int p4), .unset, .unset, .unset, .unset, .unset, .unset, .unset, .unset, .unset, .unset, .unset, .unset, .unset, .unset, .unset, .unset, .unset, .unset, .unset] []) := by first | (simp [entryFrame, mkF, argsToLocals, Value.category, maxLocals]; done) | rfl
def Q_lw (Z : State) (p1 : Int32) (p2 : Int32) (p3 : Int32) (p4 : Int32)  (h0 : Heap) (n0 : Nat) (v : Option Value) (h : Heap) (L : List Loc) : Prop := v = some (.int 1) ∧ Fr n0 L
set_option maxRecDepth 65536 in
set_option maxHeartbeats 40000000 in
theorem rm_lw (l : Launch) (Z : State) (a0 : Array Value) (hw : ∀ d ∈ tables_1, d.before a0 Z = true) (ws : List Jvm.Cond) (p1 : Int32) (p2 : Int32) (p3 : Int32) (p4 : Int32)  (h0 : Heap) (n0 : Nat) (Z0 : n0 ≤ h0.size)  (hr0 : ifCond.holds .ne (XT.cmpL (lw_r p1 p2 p3 p4) (0 : Int64)) = false)  :
    MetFree l x (head1 (Jvm.Cond.code x code maxLocals ret :: ws) room_1) (fun a U => a = #[(.int p1), (.int p2), (.int p3), (.int p4)] ∧ Z.Warmed39 U.vm ∧ U.heap = h0) (fun _ _ _ _ _ => True) (fun _ U o U' => ∃ v L, o = .returned v ∧ Q_lw Z p1 p2 p3 p4  h0 n0 v U'.heap L ∧ FrameEnd U o U' L 1 3) := by
  refine MetFree.of_bodySF (plainFor_of_name pn_2) hisR ?_
  intro p e s m args below meth c s₁ Bd hml0 hP hK
  obtain ⟨rfl, hZ, hh⟩ := hP
  have hx := Bd.exec
  have hby := Bd.bytes
  have hml : c.maxLocals = 23 := hml0
  have hown : s.vm.findClass "com/example/trailhive/trailhive/DaySlicesStartPinLaw" = some m.cls := findClass_of_methodNamed Bd.named
  have hnm := (name_of_methodNamed Bd.named Bd.method).1
  have X0 : Stand p l e room_1 s m #[(.int p1), (.int p2), (.int p3), (.int p4)] below meth c s₁ [] 0 0 := Stand.of_body Bd
  have e0 : s₁.heap = h0 := by rw [← hh, Bd.state]; rfl
  have N0 := Fr.nil n0
  have pre0 : ∀ t, Steps p.tables e below (s₁.setTop (mkF m 0 #[.val (.int p1), .val (.int p2), .val (.int p3), .val (.int p4), .unset, .unset, .unset, .unset, .unset, .unset, .unset, .unset, .unset, .unset, .unset, .unset, .unset, .unset, .unset, .unset, .unset, .unset, .unset] [])) t → Steps p.tables e below (s₁.setTop (entryFrame m #[(.int p1), (.int p2), (.int p3), (.int p4)] maxLocals)) t := fun t k => castTop (ef_lw m p1 p2 p3 p4) k
  obtain ⟨T1, h1, X1, e1, E1, A1, D1, -, st1⟩ := newO X0 hx hZ hown (hw _ (List.mem_of_getElem? (i := 1) rfl)) (hw _ (List.mem_of_getElem? (i := 2) rfl)) (hw _ (List.mem_of_getElem? (i := 3) rfl)) e0 (g := (mkF m 32 #[.val (.int p1), .val (.int p2), .val (.int p3), .val (.int p4), .val (.int (lw_n p1 p2 p3 p4)), .val (.int (lw_k p1 p2 p3 p4)), .val (.double (lw_op p1 p2 p3 p4)), .second, .val (.double (lw_cl p1 p2 p3 p4)), .second, .unset, .unset, .unset, .unset, .unset, .unset, .unset, .unset, .unset, .unset, .unset, .unset, .unset] [])) rfl (hb hby at_32) (by decide) (by decide)
  obtain ⟨ad1, g1⟩ : ∃ z, z = (h0).size := ⟨_, rfl⟩
  rw [← g1] at A1 D1 st1
  have F1_0 : Fld Z h1 ad1 "com/example/trailhive/trailhive/DaySlices" "opens" "D" (.double (0 : UInt64)) := (D1 (Or.inr (hw _ (List.mem_of_getElem? (i := 16) rfl))) (ty := .double) (by decide))
  have F1_1 : Fld Z h1 ad1 "com/example/trailhive/trailhive/DaySlices" "closes" "D" (.double (0 : UInt64)) := (D1 (Or.inr (hw _ (List.mem_of_getElem? (i := 18) rfl))) (ty := .double) (by decide))
  have F1_2 : Fld Z h1 ad1 "com/example/trailhive/trailhive/DaySlices" "count" "I" (.int (0 : Int32)) := (D1 (Or.inr (hw _ (List.mem_of_getElem? (i := 20) rfl))) (ty := .int) (by decide))
  have Z1 : n0 ≤ h1.size := Nat.le_trans Z0 E1.1
  have gn1 : n0 ≤ ad1 := Nat.le_trans Z0 (Nat.le_of_eq g1.symm)
  obtain ⟨_, _, ⟨T2, L2, k2, n2⟩, -, X2, ⟨Lc2, hQ2, l2, y2, z2⟩, st2⟩ := X1.specialBack hx (y := (⟨"com/example/trailhive/trailhive/DaySlices", "<init>", "(DDI)V"⟩ : MethodName)) rfl hown (mvT hZ (hw _ (List.mem_of_getElem? (i := 4) rfl))) (mvT hZ (hw _ (List.mem_of_getElem? (i := 5) rfl))) (mvT hZ (hw _ (List.mem_of_getElem? (i := 6) rfl))) (by decide) (backOf (W := 1) (rm_ini l Z a0 hw [] ad1 (lw_op p1 p2 p3 p4) (lw_cl p1 p2 p3 p4) (lw_n p1 p2 p3 p4)  (h1) n0 Z1 F1_0 F1_1 F1_2 A1 gn1 (own_ge p1 p2 p3 p4)) hZ (hw _ (List.mem_of_getElem? (i := 6) rfl)) (hw _ (List.mem_of_getElem? (i := 3) rfl)) (by decide) (by decide)) (g := (mkF m 42 #[.val (.int p1), .val (.int p2), .val (.int p3), .val (.int p4), .val (.int (lw_n p1 p2 p3 p4)), .val (.int (lw_k p1 p2 p3 p4)), .val (.double (lw_op p1 p2 p3 p4)), .second, .val (.double (lw_cl p1 p2 p3 p4)), .second, .unset, .unset, .unset, .unset, .unset, .unset, .unset, .unset, .unset, .unset, .unset, .unset, .unset] [(.int (lw_n p1 p2 p3 p4)), (.double (lw_cl p1 p2 p3 p4)), (.double (lw_op p1 p2 p3 p4)), (.ref ad1), (.ref ad1)])) rfl (by rw [hml]; rfl) (Steps.refl _) (a := ad1) (argsL := [(.double (lw_op p1 p2 p3 p4)), (.double (lw_cl p1 p2 p3 p4)), (.int (lw_n p1 p2 p3 p4))]) (rest := [(.ref ad1)]) (lenOf pd_2 rfl) rfl (by show 2 * 0 + _ ≤ _; exact Nat.le_of_eq rfl) (hb hby at_42) (fun _ _ => ⟨rfl, e1, (by decide : 1 + 0 ≤ _), (by decide : 3 + 0 ≤ _)⟩)
  dsimp only [Pt.U, Pt.locs, Pt.cells, Pt.slots] at X2 l2 y2 z2 st2 hQ2
  subst l2 y2 z2
  obtain ⟨rfl, N2, K2, p2_0, p2_1, p2_2, p2_3⟩ := hQ2
  have Nn2 := Fr.app N0 N2
  have Z2 : n0 ≤ T2.heap.size := Nat.le_trans Z1 K2.1
  obtain ⟨cq3, kq3, qa3, qb3, qc3⟩ := isOf hZ rfl p2_0
  obtain ⟨_, _, ⟨T3, L3, k3, n3⟩, -, X3, ⟨Lc3, hQ3, l3, y3, z3⟩, st3⟩ := X2.virtualBack hx (y := (⟨"com/example/trailhive/trailhive/DaySlices", "start", "(I)D"⟩ : MethodName)) (z := (⟨"com/example/trailhive/trailhive/DaySlices", "start", "(I)D"⟩ : MethodName)) hown (mvT hZ (hw _ (List.mem_of_getElem? (i := 21) rfl))) (mvT hZ (hw _ (List.mem_of_getElem? (i := 22) rfl))) (notFace_of_selects (args := #[]) (mvT hZ (hw _ (List.mem_of_getElem? (i := 24) rfl)))) (mvT hZ (hw _ (List.mem_of_getElem? (i := 24) rfl))) (mvT hZ (hw _ (List.mem_of_getElem? (i := 23) rfl))) (by decide) (backOf (W := 0) (rm_st l Z a0 hw [] ad1 (lw_k p1 p2 p3 p4) (lw_op p1 p2 p3 p4) (lw_cl p1 p2 p3 p4) (lw_n p1 p2 p3 p4) (T2.heap) n0 Z2 p2_0 p2_1 p2_2 p2_3 (own_s1 p1 p2 p3 p4) (own_s2 p1 p2 p3 p4) (own_s3 p1 p2 p3 p4) (own_s p1 p2 p3 p4).1 (own_s p1 p2 p3 p4).2.1 (own_s p1 p2 p3 p4).2.2.1 (own_s p1 p2 p3 p4).2.2.2) hZ (hw _ (List.mem_of_getElem? (i := 25) rfl)) (hw _ (List.mem_of_getElem? (i := 3) rfl)) (by decide) (by decide)) qa3 qc3 (g := (mkF m 51 #[.val (.int p1), .val (.int p2), .val (.int p3), .val (.int p4), .val (.int (lw_n p1 p2 p3 p4)), .val (.int (lw_k p1 p2 p3 p4)), .val (.double (lw_op p1 p2 p3 p4)), .second, .val (.double (lw_cl p1 p2 p3 p4)), .second, .val (.ref ad1), .unset, .unset, .unset, .unset, .unset, .unset, .unset, .unset, .unset, .unset, .unset, .unset] [(.int (lw_k p1 p2 p3 p4)), (.ref ad1)])) rfl (by rw [hml]; rfl) (Steps.refl _) (argsL := [(.int (lw_k p1 p2 p3 p4))]) (rest := []) (lenOf pd_1 rfl) rfl (by show 2 * 0 + _ ≤ _; exact Nat.le_of_eq rfl) (hb hby at_51) (fun _ _ => ⟨rfl, rfl, (by decide : 1 + 0 ≤ _), (by decide : 3 + 0 ≤ _)⟩)
  dsimp only [Pt.U, Pt.locs, Pt.cells, Pt.slots] at X3 l3 y3 z3 st3 hQ3
  subst l3 y3 z3
  obtain ⟨rfl, N3, e3⟩ := hQ3
  have Nn3 := Fr.app Nn2 N3
  obtain ⟨fs, hr, hrun, hended, hW, hsame⟩ := X3.leave (v := some (.int (1 : Int32))) (fun h => by rw [Bd.returns] at h; cases h)
  refine ⟨_, _, pre0 _ ?_, hrun, hended, _, _, rfl, ?_, ⟨_, rfl⟩, hW, hsame.mono (Nat.le_of_ble_eq_true rfl) (Nat.le_of_ble_eq_true rfl)⟩
  · show Steps p.tables e below (s₁.setTop (mkF m 0 #[.val (.int p1), .val (.int p2), .val (.int p3), .val (.int p4), .unset, .unset, .unset, .unset, .unset, .unset, .unset, .unset, .unset, .unset, .unset, .unset, .unset, .unset, .unset, .unset, .unset, .unset, .unset] [])) _
    refine XS.iloadN X0.here hx rfl (hb hby at_0) rfl ?_
    show Steps p.tables e below (s₁.setTop (mkF m 1 #[.val (.int p1), .val (.int p2), .val (.int p3), .val (.int p4), .unset, .unset, .unset, .unset, .unset, .unset, .unset, .unset, .unset, .unset, .unset, .unset, .unset, .unset, .unset, .unset, .unset, .unset, .unset] [(.int p3)])) _
    refine XS.sipush X0.here hx rfl (hb hby at_1) ?_
    show Steps p.tables e below (s₁.setTop (mkF m 4 #[.val (.int p1), .val (.int p2), .val (.int p3), .val (.int p4), .unset, .unset, .unset, .unset, .unset, .unset, .unset, .unset, .unset, .unset, .unset, .unset, .unset, .unset, .unset, .unset, .unset, .unset, .unset] [(.int (1023 : Int32)), (.int p3)])) _
    refine XS.iand X0.here hx rfl (hb hby at_4) rfl ?_
    show Steps p.tables e below (s₁.setTop (mkF m 5 #[.val (.int p1), .val (.int p2), .val (.int p3), .val (.int p4), .unset, .unset, .unset, .unset, .unset, .unset, .unset, .unset, .unset, .unset, .unset, .unset, .unset, .unset, .unset, .unset, .unset, .unset, .unset] [(.int (p3 &&& (1023 : Int32)))])) _
    refine XS.iconst X0.here hx rfl (hb hby at_5) ?_
    show Steps p.tables e below (s₁.setTop (mkF m 6 #[.val (.int p1), .val (.int p2), .val (.int p3), .val (.int p4), .unset, .unset, .unset, .unset, .unset, .unset, .unset, .unset, .unset, .unset, .unset, .unset, .unset, .unset, .unset, .unset, .unset, .unset, .unset] [(.int (1 : Int32)), (.int (p3 &&& (1023 : Int32)))])) _
    refine XS.iadd X0.here hx rfl (hb hby at_6) rfl ?_
    show Steps p.tables e below (s₁.setTop (mkF m 7 #[.val (.int p1), .val (.int p2), .val (.int p3), .val (.int p4), .unset, .unset, .unset, .unset, .unset, .unset, .unset, .unset, .unset, .unset, .unset, .unset, .unset, .unset, .unset, .unset, .unset, .unset, .unset] [(.int ((p3 &&& (1023 : Int32)) + (1 : Int32)))])) _
    refine XS.istore X0.here hx rfl (hb hby at_7) rfl (l' := #[.val (.int p1), .val (.int p2), .val (.int p3), .val (.int p4), .val (.int (lw_n p1 p2 p3 p4)), .unset, .unset, .unset, .unset, .unset, .unset, .unset, .unset, .unset, .unset, .unset, .unset, .unset, .unset, .unset, .unset, .unset, .unset]) rfl ?_
    show Steps p.tables e below (s₁.setTop (mkF m 9 #[.val (.int p1), .val (.int p2), .val (.int p3), .val (.int p4), .val (.int (lw_n p1 p2 p3 p4)), .unset, .unset, .unset, .unset, .unset, .unset, .unset, .unset, .unset, .unset, .unset, .unset, .unset, .unset, .unset, .unset, .unset, .unset] [])) _
    refine XS.iloadN X0.here hx rfl (hb hby at_9) rfl ?_
    show Steps p.tables e below (s₁.setTop (mkF m 10 #[.val (.int p1), .val (.int p2), .val (.int p3), .val (.int p4), .val (.int (lw_n p1 p2 p3 p4)), .unset, .unset, .unset, .unset, .unset, .unset, .unset, .unset, .unset, .unset, .unset, .unset, .unset, .unset, .unset, .unset, .unset, .unset] [(.int p4)])) _
    refine X0.ldcI hx hown (mvT hZ (hw _ (List.mem_of_getElem? (i := 0) rfl))) (g := (mkF m 10 #[.val (.int p1), .val (.int p2), .val (.int p3), .val (.int p4), .val (.int (lw_n p1 p2 p3 p4)), .unset, .unset, .unset, .unset, .unset, .unset, .unset, .unset, .unset, .unset, .unset, .unset, .unset, .unset, .unset, .unset, .unset, .unset] [(.int p4)])) rfl (hb hby at_10) ?_
    show Steps p.tables e below (s₁.setTop (mkF m 12 #[.val (.int p1), .val (.int p2), .val (.int p3), .val (.int p4), .val (.int (lw_n p1 p2 p3 p4)), .unset, .unset, .unset, .unset, .unset, .unset, .unset, .unset, .unset, .unset, .unset, .unset, .unset, .unset, .unset, .unset, .unset, .unset] [(.int (2147483647 : Int32)), (.int p4)])) _
    refine XS.iand X0.here hx rfl (hb hby at_12) rfl ?_
    show Steps p.tables e below (s₁.setTop (mkF m 13 #[.val (.int p1), .val (.int p2), .val (.int p3), .val (.int p4), .val (.int (lw_n p1 p2 p3 p4)), .unset, .unset, .unset, .unset, .unset, .unset, .unset, .unset, .unset, .unset, .unset, .unset, .unset, .unset, .unset, .unset, .unset, .unset] [(.int (p4 &&& (2147483647 : Int32)))])) _
    refine XS.iload X0.here hx rfl (hb hby at_13) rfl ?_
    show Steps p.tables e below (s₁.setTop (mkF m 15 #[.val (.int p1), .val (.int p2), .val (.int p3), .val (.int p4), .val (.int (lw_n p1 p2 p3 p4)), .unset, .unset, .unset, .unset, .unset, .unset, .unset, .unset, .unset, .unset, .unset, .unset, .unset, .unset, .unset, .unset, .unset, .unset] [(.int (lw_n p1 p2 p3 p4)), (.int (p4 &&& (2147483647 : Int32)))])) _
    refine XS.irem X0.here hx rfl (hb hby at_15) rfl (own_n0 p1 p2 p3 p4) ?_
    show Steps p.tables e below (s₁.setTop (mkF m 16 #[.val (.int p1), .val (.int p2), .val (.int p3), .val (.int p4), .val (.int (lw_n p1 p2 p3 p4)), .unset, .unset, .unset, .unset, .unset, .unset, .unset, .unset, .unset, .unset, .unset, .unset, .unset, .unset, .unset, .unset, .unset, .unset] [(.int ((p4 &&& (2147483647 : Int32)) - (p4 &&& (2147483647 : Int32)) / (lw_n p1 p2 p3 p4) * (lw_n p1 p2 p3 p4)))])) _
    refine XS.iconst X0.here hx rfl (hb hby at_16) ?_
    show Steps p.tables e below (s₁.setTop (mkF m 17 #[.val (.int p1), .val (.int p2), .val (.int p3), .val (.int p4), .val (.int (lw_n p1 p2 p3 p4)), .unset, .unset, .unset, .unset, .unset, .unset, .unset, .unset, .unset, .unset, .unset, .unset, .unset, .unset, .unset, .unset, .unset, .unset] [(.int (1 : Int32)), (.int ((p4 &&& (2147483647 : Int32)) - (p4 &&& (2147483647 : Int32)) / (lw_n p1 p2 p3 p4) * (lw_n p1 p2 p3 p4)))])) _
    refine XS.iadd X0.here hx rfl (hb hby at_17) rfl ?_
    show Steps p.tables e below (s₁.setTop (mkF m 18 #[.val (.int p1), .val (.int p2), .val (.int p3), .val (.int p4), .val (.int (lw_n p1 p2 p3 p4)), .unset, .unset, .unset, .unset, .unset, .unset, .unset, .unset, .unset, .unset, .unset, .unset, .unset, .unset, .unset, .unset, .unset, .unset] [(.int (((p4 &&& (2147483647 : Int32)) - (p4 &&& (2147483647 : Int32)) / (lw_n p1 p2 p3 p4) * (lw_n p1 p2 p3 p4)) + (1 : Int32)))])) _
    refine XS.istore X0.here hx rfl (hb hby at_18) rfl (l' := #[.val (.int p1), .val (.int p2), .val (.int p3), .val (.int p4), .val (.int (lw_n p1 p2 p3 p4)), .val (.int (lw_k p1 p2 p3 p4)), .unset, .unset, .unset, .unset, .unset, .unset, .unset, .unset, .unset, .unset, .unset, .unset, .unset, .unset, .unset, .unset, .unset]) rfl ?_
    show Steps p.tables e below (s₁.setTop (mkF m 20 #[.val (.int p1), .val (.int p2), .val (.int p3), .val (.int p4), .val (.int (lw_n p1 p2 p3 p4)), .val (.int (lw_k p1 p2 p3 p4)), .unset, .unset, .unset, .unset, .unset, .unset, .unset, .unset, .unset, .unset, .unset, .unset, .unset, .unset, .unset, .unset, .unset] [])) _
    refine XS.iloadN X0.here hx rfl (hb hby at_20) rfl ?_
    show Steps p.tables e below (s₁.setTop (mkF m 21 #[.val (.int p1), .val (.int p2), .val (.int p3), .val (.int p4), .val (.int (lw_n p1 p2 p3 p4)), .val (.int (lw_k p1 p2 p3 p4)), .unset, .unset, .unset, .unset, .unset, .unset, .unset, .unset, .unset, .unset, .unset, .unset, .unset, .unset, .unset, .unset, .unset] [(.int p1)])) _
    refine XS.i2dS X0.here hx rfl (hb hby at_21) rfl rfl ?_
    show Steps p.tables e below (s₁.setTop (mkF m 22 #[.val (.int p1), .val (.int p2), .val (.int p3), .val (.int p4), .val (.int (lw_n p1 p2 p3 p4)), .val (.int (lw_k p1 p2 p3 p4)), .unset, .unset, .unset, .unset, .unset, .unset, .unset, .unset, .unset, .unset, .unset, .unset, .unset, .unset, .unset, .unset, .unset] [(.double (FP.i2d p1))])) _
    refine XS.dstore X0.here hx rfl (hb hby at_22) rfl (l' := #[.val (.int p1), .val (.int p2), .val (.int p3), .val (.int p4), .val (.int (lw_n p1 p2 p3 p4)), .val (.int (lw_k p1 p2 p3 p4)), .val (.double (lw_op p1 p2 p3 p4)), .second, .unset, .unset, .unset, .unset, .unset, .unset, .unset, .unset, .unset, .unset, .unset, .unset, .unset, .unset, .unset]) rfl ?_
    show Steps p.tables e below (s₁.setTop (mkF m 24 #[.val (.int p1), .val (.int p2), .val (.int p3), .val (.int p4), .val (.int (lw_n p1 p2 p3 p4)), .val (.int (lw_k p1 p2 p3 p4)), .val (.double (lw_op p1 p2 p3 p4)), .second, .unset, .unset, .unset, .unset, .unset, .unset, .unset, .unset, .unset, .unset, .unset, .unset, .unset, .unset, .unset] [])) _
    refine XS.iloadN X0.here hx rfl (hb hby at_24) rfl ?_
    show Steps p.tables e below (s₁.setTop (mkF m 25 #[.val (.int p1), .val (.int p2), .val (.int p3), .val (.int p4), .val (.int (lw_n p1 p2 p3 p4)), .val (.int (lw_k p1 p2 p3 p4)), .val (.double (lw_op p1 p2 p3 p4)), .second, .unset, .unset, .unset, .unset, .unset, .unset, .unset, .unset, .unset, .unset, .unset, .unset, .unset, .unset, .unset] [(.int p1)])) _
    refine XT.i2l X0.here hx rfl (hb hby at_25) rfl ?_
    show Steps p.tables e below (s₁.setTop (mkF m 26 #[.val (.int p1), .val (.int p2), .val (.int p3), .val (.int p4), .val (.int (lw_n p1 p2 p3 p4)), .val (.int (lw_k p1 p2 p3 p4)), .val (.double (lw_op p1 p2 p3 p4)), .second, .unset, .unset, .unset, .unset, .unset, .unset, .unset, .unset, .unset, .unset, .unset, .unset, .unset, .unset, .unset] [(.long (Int32.toInt64 p1))])) _
    refine XS.iloadN X0.here hx rfl (hb hby at_26) rfl ?_
    show Steps p.tables e below (s₁.setTop (mkF m 27 #[.val (.int p1), .val (.int p2), .val (.int p3), .val (.int p4), .val (.int (lw_n p1 p2 p3 p4)), .val (.int (lw_k p1 p2 p3 p4)), .val (.double (lw_op p1 p2 p3 p4)), .second, .unset, .unset, .unset, .unset, .unset, .unset, .unset, .unset, .unset, .unset, .unset, .unset, .unset, .unset, .unset] [(.int p2), (.long (Int32.toInt64 p1))])) _
    refine XT.i2l X0.here hx rfl (hb hby at_27) rfl ?_
    show Steps p.tables e below (s₁.setTop (mkF m 28 #[.val (.int p1), .val (.int p2), .val (.int p3), .val (.int p4), .val (.int (lw_n p1 p2 p3 p4)), .val (.int (lw_k p1 p2 p3 p4)), .val (.double (lw_op p1 p2 p3 p4)), .second, .unset, .unset, .unset, .unset, .unset, .unset, .unset, .unset, .unset, .unset, .unset, .unset, .unset, .unset, .unset] [(.long (Int32.toInt64 p2)), (.long (Int32.toInt64 p1))])) _
    refine XT.ladd X0.here hx rfl (hb hby at_28) rfl ?_
    show Steps p.tables e below (s₁.setTop (mkF m 29 #[.val (.int p1), .val (.int p2), .val (.int p3), .val (.int p4), .val (.int (lw_n p1 p2 p3 p4)), .val (.int (lw_k p1 p2 p3 p4)), .val (.double (lw_op p1 p2 p3 p4)), .second, .unset, .unset, .unset, .unset, .unset, .unset, .unset, .unset, .unset, .unset, .unset, .unset, .unset, .unset, .unset] [(.long ((Int32.toInt64 p1) + (Int32.toInt64 p2)))])) _
    refine XS.l2dS X0.here hx rfl (hb hby at_29) rfl rfl ?_
    show Steps p.tables e below (s₁.setTop (mkF m 30 #[.val (.int p1), .val (.int p2), .val (.int p3), .val (.int p4), .val (.int (lw_n p1 p2 p3 p4)), .val (.int (lw_k p1 p2 p3 p4)), .val (.double (lw_op p1 p2 p3 p4)), .second, .unset, .unset, .unset, .unset, .unset, .unset, .unset, .unset, .unset, .unset, .unset, .unset, .unset, .unset, .unset] [(.double (FP.l2d ((Int32.toInt64 p1) + (Int32.toInt64 p2))))])) _
    refine XS.dstore X0.here hx rfl (hb hby at_30) rfl (l' := #[.val (.int p1), .val (.int p2), .val (.int p3), .val (.int p4), .val (.int (lw_n p1 p2 p3 p4)), .val (.int (lw_k p1 p2 p3 p4)), .val (.double (lw_op p1 p2 p3 p4)), .second, .val (.double (lw_cl p1 p2 p3 p4)), .second, .unset, .unset, .unset, .unset, .unset, .unset, .unset, .unset, .unset, .unset, .unset, .unset, .unset]) rfl ?_
    show Steps p.tables e below (s₁.setTop (mkF m 32 #[.val (.int p1), .val (.int p2), .val (.int p3), .val (.int p4), .val (.int (lw_n p1 p2 p3 p4)), .val (.int (lw_k p1 p2 p3 p4)), .val (.double (lw_op p1 p2 p3 p4)), .second, .val (.double (lw_cl p1 p2 p3 p4)), .second, .unset, .unset, .unset, .unset, .unset, .unset, .unset, .unset, .unset, .unset, .unset, .unset, .unset] [])) _
    refine st1 _ ?_
    show Steps p.tables e below (T1.setTop (mkF m 35 #[.val (.int p1), .val (.int p2), .val (.int p3), .val (.int p4), .val (.int (lw_n p1 p2 p3 p4)), .val (.int (lw_k p1 p2 p3 p4)), .val (.double (lw_op p1 p2 p3 p4)), .second, .val (.double (lw_cl p1 p2 p3 p4)), .second, .unset, .unset, .unset, .unset, .unset, .unset, .unset, .unset, .unset, .unset, .unset, .unset, .unset] [(.ref ad1)])) _
    refine XS.dup X1.here hx rfl (hb hby at_35) rfl rfl ?_
    show Steps p.tables e below (T1.setTop (mkF m 36 #[.val (.int p1), .val (.int p2), .val (.int p3), .val (.int p4), .val (.int (lw_n p1 p2 p3 p4)), .val (.int (lw_k p1 p2 p3 p4)), .val (.double (lw_op p1 p2 p3 p4)), .second, .val (.double (lw_cl p1 p2 p3 p4)), .second, .unset, .unset, .unset, .unset, .unset, .unset, .unset, .unset, .unset, .unset, .unset, .unset, .unset] [(.ref ad1), (.ref ad1)])) _
    refine XS.dload X1.here hx rfl (hb hby at_36) rfl ?_
    show Steps p.tables e below (T1.setTop (mkF m 38 #[.val (.int p1), .val (.int p2), .val (.int p3), .val (.int p4), .val (.int (lw_n p1 p2 p3 p4)), .val (.int (lw_k p1 p2 p3 p4)), .val (.double (lw_op p1 p2 p3 p4)), .second, .val (.double (lw_cl p1 p2 p3 p4)), .second, .unset, .unset, .unset, .unset, .unset, .unset, .unset, .unset, .unset, .unset, .unset, .unset, .unset] [(.double (lw_op p1 p2 p3 p4)), (.ref ad1), (.ref ad1)])) _
    refine XS.dload X1.here hx rfl (hb hby at_38) rfl ?_
    show Steps p.tables e below (T1.setTop (mkF m 40 #[.val (.int p1), .val (.int p2), .val (.int p3), .val (.int p4), .val (.int (lw_n p1 p2 p3 p4)), .val (.int (lw_k p1 p2 p3 p4)), .val (.double (lw_op p1 p2 p3 p4)), .second, .val (.double (lw_cl p1 p2 p3 p4)), .second, .unset, .unset, .unset, .unset, .unset, .unset, .unset, .unset, .unset, .unset, .unset, .unset, .unset] [(.double (lw_cl p1 p2 p3 p4)), (.double (lw_op p1 p2 p3 p4)), (.ref ad1), (.ref ad1)])) _
    refine XS.iload X1.here hx rfl (hb hby at_40) rfl ?_
    show Steps p.tables e below (T1.setTop (mkF m 42 #[.val (.int p1), .val (.int p2), .val (.int p3), .val (.int p4), .val (.int (lw_n p1 p2 p3 p4)), .val (.int (lw_k p1 p2 p3 p4)), .val (.double (lw_op p1 p2 p3 p4)), .second, .val (.double (lw_cl p1 p2 p3 p4)), .second, .unset, .unset, .unset, .unset, .unset, .unset, .unset, .unset, .unset, .unset, .unset, .unset, .unset] [(.int (lw_n p1 p2 p3 p4)), (.double (lw_cl p1 p2 p3 p4)), (.double (lw_op p1 p2 p3 p4)), (.ref ad1), (.ref ad1)])) _
    refine st2.trans ?_
    show Steps p.tables e below (T2.setTop (mkF m 45 #[.val (.int p1), .val (.int p2), .val (.int p3), .val (.int p4), .val (.int (lw_n p1 p2 p3 p4)), .val (.int (lw_k p1 p2 p3 p4)), .val (.double (lw_op p1 p2 p3 p4)), .second, .val (.double (lw_cl p1 p2 p3 p4)), .second, .unset, .unset, .unset, .unset, .unset, .unset, .unset, .unset, .unset, .unset, .unset, .unset, .unset] [(.ref ad1)])) _
    refine XS.astore X2.here hx rfl (hb hby at_45) rfl rfl (l' := #[.val (.int p1), .val (.int p2), .val (.int p3), .val (.int p4), .val (.int (lw_n p1 p2 p3 p4)), .val (.int (lw_k p1 p2 p3 p4)), .val (.double (lw_op p1 p2 p3 p4)), .second, .val (.double (lw_cl p1 p2 p3 p4)), .second, .val (.ref ad1), .unset, .unset, .unset, .unset, .unset, .unset, .unset, .unset, .unset, .unset, .unset, .unset]) rfl ?_
    show Steps p.tables e below (T2.setTop (mkF m 47 #[.val (.int p1), .val (.int p2), .val (.int p3), .val (.int p4), .val (.int (lw_n p1 p2 p3 p4)), .val (.int (lw_k p1 p2 p3 p4)), .val (.double (lw_op p1 p2 p3 p4)), .second, .val (.double (lw_cl p1 p2 p3 p4)), .second, .val (.ref ad1), .unset, .unset, .unset, .unset, .unset, .unset, .unset, .unset, .unset, .unset, .unset, .unset] [])) _
    refine XS.aload X2.here hx rfl (hb hby at_47) rfl rfl ?_
    show Steps p.tables e below (T2.setTop (mkF m 49 #[.val (.int p1), .val (.int p2), .val (.int p3), .val (.int p4), .val (.int (lw_n p1 p2 p3 p4)), .val (.int (lw_k p1 p2 p3 p4)), .val (.double (lw_op p1 p2 p3 p4)), .second, .val (.double (lw_cl p1 p2 p3 p4)), .second, .val (.ref ad1), .unset, .unset, .unset, .unset, .unset, .unset, .unset, .unset, .unset, .unset, .unset, .unset] [(.ref ad1)])) _
    refine XS.iload X2.here hx rfl (hb hby at_49) rfl ?_
    show Steps p.tables e below (T2.setTop (mkF m 51 #[.val (.int p1), .val (.int p2), .val (.int p3), .val (.int p4), .val (.int (lw_n p1 p2 p3 p4)), .val (.int (lw_k p1 p2 p3 p4)), .val (.double (lw_op p1 p2 p3 p4)), .second, .val (.double (lw_cl p1 p2 p3 p4)), .second, .val (.ref ad1), .unset, .unset, .unset, .unset, .unset, .unset, .unset, .unset, .unset, .unset, .unset, .unset] [(.int (lw_k p1 p2 p3 p4)), (.ref ad1)])) _
    refine st3.trans ?_
    show Steps p.tables e below (T3.setTop (mkF m 54 #[.val (.int p1), .val (.int p2), .val (.int p3), .val (.int p4), .val (.int (lw_n p1 p2 p3 p4)), .val (.int (lw_k p1 p2 p3 p4)), .val (.double (lw_op p1 p2 p3 p4)), .second, .val (.double (lw_cl p1 p2 p3 p4)), .second, .val (.ref ad1), .unset, .unset, .unset, .unset, .unset, .unset, .unset, .unset, .unset, .unset, .unset, .unset] [(.double (FP.dadd (lw_op p1 p2 p3 p4) (FP.ddiv (FP.dmul (FP.dsub (lw_cl p1 p2 p3 p4) (lw_op p1 p2 p3 p4)) (FP.i2d ((lw_k p1 p2 p3 p4) - (1 : Int32)))) (FP.i2d (lw_n p1 p2 p3 p4)))))])) _
    refine XS.dstore X3.here hx rfl (hb hby at_54) rfl (l' := #[.val (.int p1), .val (.int p2), .val (.int p3), .val (.int p4), .val (.int (lw_n p1 p2 p3 p4)), .val (.int (lw_k p1 p2 p3 p4)), .val (.double (lw_op p1 p2 p3 p4)), .second, .val (.double (lw_cl p1 p2 p3 p4)), .second, .val (.ref ad1), .val (.double (lw_s p1 p2 p3 p4)), .second, .unset, .unset, .unset, .unset, .unset, .unset, .unset, .unset, .unset, .unset]) rfl ?_
    show Steps p.tables e below (T3.setTop (mkF m 56 #[.val (.int p1), .val (.int p2), .val (.int p3), .val (.int p4), .val (.int (lw_n p1 p2 p3 p4)), .val (.int (lw_k p1 p2 p3 p4)), .val (.double (lw_op p1 p2 p3 p4)), .second, .val (.double (lw_cl p1 p2 p3 p4)), .second, .val (.ref ad1), .val (.double (lw_s p1 p2 p3 p4)), .second, .unset, .unset, .unset, .unset, .unset, .unset, .unset, .unset, .unset, .unset] [])) _
    refine XS.iloadN X3.here hx rfl (hb hby at_56) rfl ?_
    show Steps p.tables e below (T3.setTop (mkF m 57 #[.val (.int p1), .val (.int p2), .val (.int p3), .val (.int p4), .val (.int (lw_n p1 p2 p3 p4)), .val (.int (lw_k p1 p2 p3 p4)), .val (.double (lw_op p1 p2 p3 p4)), .second, .val (.double (lw_cl p1 p2 p3 p4)), .second, .val (.ref ad1), .val (.double (lw_s p1 p2 p3 p4)), .second, .unset, .unset, .unset, .unset, .unset, .unset, .unset, .unset, .unset, .unset] [(.int p2)])) _
    refine XT.i2l X3.here hx rfl (hb hby at_57) rfl ?_
    show Steps p.tables e below (T3.setTop (mkF m 58 #[.val (.int p1), .val (.int p2), .val (.int p3), .val (.int p4), .val (.int (lw_n p1 p2 p3 p4)), .val (.int (lw_k p1 p2 p3 p4)), .val (.double (lw_op p1 p2 p3 p4)), .second, .val (.double (lw_cl p1 p2 p3 p4)), .second, .val (.ref ad1), .val (.double (lw_s p1 p2 p3 p4)), .second, .unset, .unset, .unset, .unset, .unset, .unset, .unset, .unset, .unset, .unset] [(.long (Int32.toInt64 p2))])) _
    refine XS.iload X3.here hx rfl (hb hby at_58) rfl ?_
    show Steps p.tables e below (T3.setTop (mkF m 60 #[.val (.int p1), .val (.int p2), .val (.int p3), .val (.int p4), .val (.int (lw_n p1 p2 p3 p4)), .val (.int (lw_k p1 p2 p3 p4)), .val (.double (lw_op p1 p2 p3 p4)), .second, .val (.double (lw_cl p1 p2 p3 p4)), .second, .val (.ref ad1), .val (.double (lw_s p1 p2 p3 p4)), .second, .unset, .unset, .unset, .unset, .unset, .unset, .unset, .unset, .unset, .unset] [(.int (lw_k p1 p2 p3 p4)), (.long (Int32.toInt64 p2))])) _
    refine XS.iconst X3.here hx rfl (hb hby at_60) ?_
    show Steps p.tables e below (T3.setTop (mkF m 61 #[.val (.int p1), .val (.int p2), .val (.int p3), .val (.int p4), .val (.int (lw_n p1 p2 p3 p4)), .val (.int (lw_k p1 p2 p3 p4)), .val (.double (lw_op p1 p2 p3 p4)), .second, .val (.double (lw_cl p1 p2 p3 p4)), .second, .val (.ref ad1), .val (.double (lw_s p1 p2 p3 p4)), .second, .unset, .unset, .unset, .unset, .unset, .unset, .unset, .unset, .unset, .unset] [(.int (1 : Int32)), (.int (lw_k p1 p2 p3 p4)), (.long (Int32.toInt64 p2))])) _
    refine XS.isub X3.here hx rfl (hb hby at_61) rfl ?_
    show Steps p.tables e below (T3.setTop (mkF m 62 #[.val (.int p1), .val (.int p2), .val (.int p3), .val (.int p4), .val (.int (lw_n p1 p2 p3 p4)), .val (.int (lw_k p1 p2 p3 p4)), .val (.double (lw_op p1 p2 p3 p4)), .second, .val (.double (lw_cl p1 p2 p3 p4)), .second, .val (.ref ad1), .val (.double (lw_s p1 p2 p3 p4)), .second, .unset, .unset, .unset, .unset, .unset, .unset, .unset, .unset, .unset, .unset] [(.int ((lw_k p1 p2 p3 p4) - (1 : Int32))), (.long (Int32.toInt64 p2))])) _
    refine XT.i2l X3.here hx rfl (hb hby at_62) rfl ?_
    show Steps p.tables e below (T3.setTop (mkF m 63 #[.val (.int p1), .val (.int p2), .val (.int p3), .val (.int p4), .val (.int (lw_n p1 p2 p3 p4)), .val (.int (lw_k p1 p2 p3 p4)), .val (.double (lw_op p1 p2 p3 p4)), .second, .val (.double (lw_cl p1 p2 p3 p4)), .second, .val (.ref ad1), .val (.double (lw_s p1 p2 p3 p4)), .second, .unset, .unset, .unset, .unset, .unset, .unset, .unset, .unset, .unset, .unset] [(.long (Int32.toInt64 ((lw_k p1 p2 p3 p4) - (1 : Int32)))), (.long (Int32.toInt64 p2))])) _
    refine XT.lmul X3.here hx rfl (hb hby at_63) rfl ?_
    show Steps p.tables e below (T3.setTop (mkF m 64 #[.val (.int p1), .val (.int p2), .val (.int p3), .val (.int p4), .val (.int (lw_n p1 p2 p3 p4)), .val (.int (lw_k p1 p2 p3 p4)), .val (.double (lw_op p1 p2 p3 p4)), .second, .val (.double (lw_cl p1 p2 p3 p4)), .second, .val (.ref ad1), .val (.double (lw_s p1 p2 p3 p4)), .second, .unset, .unset, .unset, .unset, .unset, .unset, .unset, .unset, .unset, .unset] [(.long ((Int32.toInt64 p2) * (Int32.toInt64 ((lw_k p1 p2 p3 p4) - (1 : Int32)))))])) _
    refine XT.lstore X3.here hx rfl (hb hby at_64) rfl (l' := #[.val (.int p1), .val (.int p2), .val (.int p3), .val (.int p4), .val (.int (lw_n p1 p2 p3 p4)), .val (.int (lw_k p1 p2 p3 p4)), .val (.double (lw_op p1 p2 p3 p4)), .second, .val (.double (lw_cl p1 p2 p3 p4)), .second, .val (.ref ad1), .val (.double (lw_s p1 p2 p3 p4)), .second, .val (.long (lw_p p1 p2 p3 p4)), .second, .unset, .unset, .unset, .unset, .unset, .unset, .unset, .unset]) rfl ?_
    show Steps p.tables e below (T3.setTop (mkF m 66 #[.val (.int p1), .val (.int p2), .val (.int p3), .val (.int p4), .val (.int (lw_n p1 p2 p3 p4)), .val (.int (lw_k p1 p2 p3 p4)), .val (.double (lw_op p1 p2 p3 p4)), .second, .val (.double (lw_cl p1 p2 p3 p4)), .second, .val (.ref ad1), .val (.double (lw_s p1 p2 p3 p4)), .second, .val (.long (lw_p p1 p2 p3 p4)), .second, .unset, .unset, .unset, .unset, .unset, .unset, .unset, .unset] [])) _
    refine XT.lload X3.here hx rfl (hb hby at_66) rfl ?_
    show Steps p.tables e below (T3.setTop (mkF m 68 #[.val (.int p1), .val (.int p2), .val (.int p3), .val (.int p4), .val (.int (lw_n p1 p2 p3 p4)), .val (.int (lw_k p1 p2 p3 p4)), .val (.double (lw_op p1 p2 p3 p4)), .second, .val (.double (lw_cl p1 p2 p3 p4)), .second, .val (.ref ad1), .val (.double (lw_s p1 p2 p3 p4)), .second, .val (.long (lw_p p1 p2 p3 p4)), .second, .unset, .unset, .unset, .unset, .unset, .unset, .unset, .unset] [(.long (lw_p p1 p2 p3 p4))])) _
    refine XS.iload X3.here hx rfl (hb hby at_68) rfl ?_
    show Steps p.tables e below (T3.setTop (mkF m 70 #[.val (.int p1), .val (.int p2), .val (.int p3), .val (.int p4), .val (.int (lw_n p1 p2 p3 p4)), .val (.int (lw_k p1 p2 p3 p4)), .val (.double (lw_op p1 p2 p3 p4)), .second, .val (.double (lw_cl p1 p2 p3 p4)), .second, .val (.ref ad1), .val (.double (lw_s p1 p2 p3 p4)), .second, .val (.long (lw_p p1 p2 p3 p4)), .second, .unset, .unset, .unset, .unset, .unset, .unset, .unset, .unset] [(.int (lw_n p1 p2 p3 p4)), (.long (lw_p p1 p2 p3 p4))])) _
    refine XT.i2l X3.here hx rfl (hb hby at_70) rfl ?_
    show Steps p.tables e below (T3.setTop (mkF m 71 #[.val (.int p1), .val (.int p2), .val (.int p3), .val (.int p4), .val (.int (lw_n p1 p2 p3 p4)), .val (.int (lw_k p1 p2 p3 p4)), .val (.double (lw_op p1 p2 p3 p4)), .second, .val (.double (lw_cl p1 p2 p3 p4)), .second, .val (.ref ad1), .val (.double (lw_s p1 p2 p3 p4)), .second, .val (.long (lw_p p1 p2 p3 p4)), .second, .unset, .unset, .unset, .unset, .unset, .unset, .unset, .unset] [(.long (Int32.toInt64 (lw_n p1 p2 p3 p4))), (.long (lw_p p1 p2 p3 p4))])) _
    refine XT.ldiv X3.here hx rfl (hb hby at_71) rfl (own_nL p1 p2 p3 p4) ?_
    show Steps p.tables e below (T3.setTop (mkF m 72 #[.val (.int p1), .val (.int p2), .val (.int p3), .val (.int p4), .val (.int (lw_n p1 p2 p3 p4)), .val (.int (lw_k p1 p2 p3 p4)), .val (.double (lw_op p1 p2 p3 p4)), .second, .val (.double (lw_cl p1 p2 p3 p4)), .second, .val (.ref ad1), .val (.double (lw_s p1 p2 p3 p4)), .second, .val (.long (lw_p p1 p2 p3 p4)), .second, .unset, .unset, .unset, .unset, .unset, .unset, .unset, .unset] [(.long ((lw_p p1 p2 p3 p4) / (Int32.toInt64 (lw_n p1 p2 p3 p4))))])) _
    refine XT.lstore X3.here hx rfl (hb hby at_72) rfl (l' := #[.val (.int p1), .val (.int p2), .val (.int p3), .val (.int p4), .val (.int (lw_n p1 p2 p3 p4)), .val (.int (lw_k p1 p2 p3 p4)), .val (.double (lw_op p1 p2 p3 p4)), .second, .val (.double (lw_cl p1 p2 p3 p4)), .second, .val (.ref ad1), .val (.double (lw_s p1 p2 p3 p4)), .second, .val (.long (lw_p p1 p2 p3 p4)), .second, .val (.long (lw_q p1 p2 p3 p4)), .second, .unset, .unset, .unset, .unset, .unset, .unset]) rfl ?_
    show Steps p.tables e below (T3.setTop (mkF m 74 #[.val (.int p1), .val (.int p2), .val (.int p3), .val (.int p4), .val (.int (lw_n p1 p2 p3 p4)), .val (.int (lw_k p1 p2 p3 p4)), .val (.double (lw_op p1 p2 p3 p4)), .second, .val (.double (lw_cl p1 p2 p3 p4)), .second, .val (.ref ad1), .val (.double (lw_s p1 p2 p3 p4)), .second, .val (.long (lw_p p1 p2 p3 p4)), .second, .val (.long (lw_q p1 p2 p3 p4)), .second, .unset, .unset, .unset, .unset, .unset, .unset] [])) _
    refine XT.lload X3.here hx rfl (hb hby at_74) rfl ?_
    show Steps p.tables e below (T3.setTop (mkF m 76 #[.val (.int p1), .val (.int p2), .val (.int p3), .val (.int p4), .val (.int (lw_n p1 p2 p3 p4)), .val (.int (lw_k p1 p2 p3 p4)), .val (.double (lw_op p1 p2 p3 p4)), .second, .val (.double (lw_cl p1 p2 p3 p4)), .second, .val (.ref ad1), .val (.double (lw_s p1 p2 p3 p4)), .second, .val (.long (lw_p p1 p2 p3 p4)), .second, .val (.long (lw_q p1 p2 p3 p4)), .second, .unset, .unset, .unset, .unset, .unset, .unset] [(.long (lw_p p1 p2 p3 p4))])) _
    refine XS.iload X3.here hx rfl (hb hby at_76) rfl ?_
    show Steps p.tables e below (T3.setTop (mkF m 78 #[.val (.int p1), .val (.int p2), .val (.int p3), .val (.int p4), .val (.int (lw_n p1 p2 p3 p4)), .val (.int (lw_k p1 p2 p3 p4)), .val (.double (lw_op p1 p2 p3 p4)), .second, .val (.double (lw_cl p1 p2 p3 p4)), .second, .val (.ref ad1), .val (.double (lw_s p1 p2 p3 p4)), .second, .val (.long (lw_p p1 p2 p3 p4)), .second, .val (.long (lw_q p1 p2 p3 p4)), .second, .unset, .unset, .unset, .unset, .unset, .unset] [(.int (lw_n p1 p2 p3 p4)), (.long (lw_p p1 p2 p3 p4))])) _
    refine XT.i2l X3.here hx rfl (hb hby at_78) rfl ?_
    show Steps p.tables e below (T3.setTop (mkF m 79 #[.val (.int p1), .val (.int p2), .val (.int p3), .val (.int p4), .val (.int (lw_n p1 p2 p3 p4)), .val (.int (lw_k p1 p2 p3 p4)), .val (.double (lw_op p1 p2 p3 p4)), .second, .val (.double (lw_cl p1 p2 p3 p4)), .second, .val (.ref ad1), .val (.double (lw_s p1 p2 p3 p4)), .second, .val (.long (lw_p p1 p2 p3 p4)), .second, .val (.long (lw_q p1 p2 p3 p4)), .second, .unset, .unset, .unset, .unset, .unset, .unset] [(.long (Int32.toInt64 (lw_n p1 p2 p3 p4))), (.long (lw_p p1 p2 p3 p4))])) _
    refine XT.lrem X3.here hx rfl (hb hby at_79) rfl (own_nL p1 p2 p3 p4) ?_
    show Steps p.tables e below (T3.setTop (mkF m 80 #[.val (.int p1), .val (.int p2), .val (.int p3), .val (.int p4), .val (.int (lw_n p1 p2 p3 p4)), .val (.int (lw_k p1 p2 p3 p4)), .val (.double (lw_op p1 p2 p3 p4)), .second, .val (.double (lw_cl p1 p2 p3 p4)), .second, .val (.ref ad1), .val (.double (lw_s p1 p2 p3 p4)), .second, .val (.long (lw_p p1 p2 p3 p4)), .second, .val (.long (lw_q p1 p2 p3 p4)), .second, .unset, .unset, .unset, .unset, .unset, .unset] [(.long ((lw_p p1 p2 p3 p4) - (lw_p p1 p2 p3 p4) / (Int32.toInt64 (lw_n p1 p2 p3 p4)) * (Int32.toInt64 (lw_n p1 p2 p3 p4))))])) _
    refine XT.lstore X3.here hx rfl (hb hby at_80) rfl (l' := #[.val (.int p1), .val (.int p2), .val (.int p3), .val (.int p4), .val (.int (lw_n p1 p2 p3 p4)), .val (.int (lw_k p1 p2 p3 p4)), .val (.double (lw_op p1 p2 p3 p4)), .second, .val (.double (lw_cl p1 p2 p3 p4)), .second, .val (.ref ad1), .val (.double (lw_s p1 p2 p3 p4)), .second, .val (.long (lw_p p1 p2 p3 p4)), .second, .val (.long (lw_q p1 p2 p3 p4)), .second, .val (.long (lw_r p1 p2 p3 p4)), .second, .unset, .unset, .unset, .unset]) rfl ?_
    show Steps p.tables e below (T3.setTop (mkF m 82 #[.val (.int p1), .val (.int p2), .val (.int p3), .val (.int p4), .val (.int (lw_n p1 p2 p3 p4)), .val (.int (lw_k p1 p2 p3 p4)), .val (.double (lw_op p1 p2 p3 p4)), .second, .val (.double (lw_cl p1 p2 p3 p4)), .second, .val (.ref ad1), .val (.double (lw_s p1 p2 p3 p4)), .second, .val (.long (lw_p p1 p2 p3 p4)), .second, .val (.long (lw_q p1 p2 p3 p4)), .second, .val (.long (lw_r p1 p2 p3 p4)), .second, .unset, .unset, .unset, .unset] [])) _
    refine XT.lload X3.here hx rfl (hb hby at_82) rfl ?_
    show Steps p.tables e below (T3.setTop (mkF m 84 #[.val (.int p1), .val (.int p2), .val (.int p3), .val (.int p4), .val (.int (lw_n p1 p2 p3 p4)), .val (.int (lw_k p1 p2 p3 p4)), .val (.double (lw_op p1 p2 p3 p4)), .second, .val (.double (lw_cl p1 p2 p3 p4)), .second, .val (.ref ad1), .val (.double (lw_s p1 p2 p3 p4)), .second, .val (.long (lw_p p1 p2 p3 p4)), .second, .val (.long (lw_q p1 p2 p3 p4)), .second, .val (.long (lw_r p1 p2 p3 p4)), .second, .unset, .unset, .unset, .unset] [(.long (lw_r p1 p2 p3 p4))])) _
    refine XT.lconst X3.here hx rfl (hb hby at_84) ?_
    show Steps p.tables e below (T3.setTop (mkF m 85 #[.val (.int p1), .val (.int p2), .val (.int p3), .val (.int p4), .val (.int (lw_n p1 p2 p3 p4)), .val (.int (lw_k p1 p2 p3 p4)), .val (.double (lw_op p1 p2 p3 p4)), .second, .val (.double (lw_cl p1 p2 p3 p4)), .second, .val (.ref ad1), .val (.double (lw_s p1 p2 p3 p4)), .second, .val (.long (lw_p p1 p2 p3 p4)), .second, .val (.long (lw_q p1 p2 p3 p4)), .second, .val (.long (lw_r p1 p2 p3 p4)), .second, .unset, .unset, .unset, .unset] [(.long (0 : Int64)), (.long (lw_r p1 p2 p3 p4))])) _
    refine XT.lcmp X3.here hx rfl (hb hby at_85) rfl ?_
    show Steps p.tables e below (T3.setTop (mkF m 86 #[.val (.int p1), .val (.int p2), .val (.int p3), .val (.int p4), .val (.int (lw_n p1 p2 p3 p4)), .val (.int (lw_k p1 p2 p3 p4)), .val (.double (lw_op p1 p2 p3 p4)), .second, .val (.double (lw_cl p1 p2 p3 p4)), .second, .val (.ref ad1), .val (.double (lw_s p1 p2 p3 p4)), .second, .val (.long (lw_p p1 p2 p3 p4)), .second, .val (.long (lw_q p1 p2 p3 p4)), .second, .val (.long (lw_r p1 p2 p3 p4)), .second, .unset, .unset, .unset, .unset] [(.int (XT.cmpL (lw_r p1 p2 p3 p4) (0 : Int64)))])) _
    refine XS.ifNo X3.here hx rfl (hb hby at_86) rfl hr0 ?_
    show Steps p.tables e below (T3.setTop (mkF m 89 #[.val (.int p1), .val (.int p2), .val (.int p3), .val (.int p4), .val (.int (lw_n p1 p2 p3 p4)), .val (.int (lw_k p1 p2 p3 p4)), .val (.double (lw_op p1 p2 p3 p4)), .second, .val (.double (lw_cl p1 p2 p3 p4)), .second, .val (.ref ad1), .val (.double (lw_s p1 p2 p3 p4)), .second, .val (.long (lw_p p1 p2 p3 p4)), .second, .val (.long (lw_q p1 p2 p3 p4)), .second, .val (.long (lw_r p1 p2 p3 p4)), .second, .unset, .unset, .unset, .unset] [])) _
    refine XS.dload X3.here hx rfl (hb hby at_89) rfl ?_
    show Steps p.tables e below (T3.setTop (mkF m 91 #[.val (.int p1), .val (.int p2), .val (.int p3), .val (.int p4), .val (.int (lw_n p1 p2 p3 p4)), .val (.int (lw_k p1 p2 p3 p4)), .val (.double (lw_op p1 p2 p3 p4)), .second, .val (.double (lw_cl p1 p2 p3 p4)), .second, .val (.ref ad1), .val (.double (lw_s p1 p2 p3 p4)), .second, .val (.long (lw_p p1 p2 p3 p4)), .second, .val (.long (lw_q p1 p2 p3 p4)), .second, .val (.long (lw_r p1 p2 p3 p4)), .second, .unset, .unset, .unset, .unset] [(.double (lw_s p1 p2 p3 p4))])) _
    refine XS.iloadN X3.here hx rfl (hb hby at_91) rfl ?_
    show Steps p.tables e below (T3.setTop (mkF m 92 #[.val (.int p1), .val (.int p2), .val (.int p3), .val (.int p4), .val (.int (lw_n p1 p2 p3 p4)), .val (.int (lw_k p1 p2 p3 p4)), .val (.double (lw_op p1 p2 p3 p4)), .second, .val (.double (lw_cl p1 p2 p3 p4)), .second, .val (.ref ad1), .val (.double (lw_s p1 p2 p3 p4)), .second, .val (.long (lw_p p1 p2 p3 p4)), .second, .val (.long (lw_q p1 p2 p3 p4)), .second, .val (.long (lw_r p1 p2 p3 p4)), .second, .unset, .unset, .unset, .unset] [(.int p1), (.double (lw_s p1 p2 p3 p4))])) _
    refine XT.i2l X3.here hx rfl (hb hby at_92) rfl ?_
    show Steps p.tables e below (T3.setTop (mkF m 93 #[.val (.int p1), .val (.int p2), .val (.int p3), .val (.int p4), .val (.int (lw_n p1 p2 p3 p4)), .val (.int (lw_k p1 p2 p3 p4)), .val (.double (lw_op p1 p2 p3 p4)), .second, .val (.double (lw_cl p1 p2 p3 p4)), .second, .val (.ref ad1), .val (.double (lw_s p1 p2 p3 p4)), .second, .val (.long (lw_p p1 p2 p3 p4)), .second, .val (.long (lw_q p1 p2 p3 p4)), .second, .val (.long (lw_r p1 p2 p3 p4)), .second, .unset, .unset, .unset, .unset] [(.long (Int32.toInt64 p1)), (.double (lw_s p1 p2 p3 p4))])) _
    refine XT.lload X3.here hx rfl (hb hby at_93) rfl ?_
    show Steps p.tables e below (T3.setTop (mkF m 95 #[.val (.int p1), .val (.int p2), .val (.int p3), .val (.int p4), .val (.int (lw_n p1 p2 p3 p4)), .val (.int (lw_k p1 p2 p3 p4)), .val (.double (lw_op p1 p2 p3 p4)), .second, .val (.double (lw_cl p1 p2 p3 p4)), .second, .val (.ref ad1), .val (.double (lw_s p1 p2 p3 p4)), .second, .val (.long (lw_p p1 p2 p3 p4)), .second, .val (.long (lw_q p1 p2 p3 p4)), .second, .val (.long (lw_r p1 p2 p3 p4)), .second, .unset, .unset, .unset, .unset] [(.long (lw_q p1 p2 p3 p4)), (.long (Int32.toInt64 p1)), (.double (lw_s p1 p2 p3 p4))])) _
    refine XT.ladd X3.here hx rfl (hb hby at_95) rfl ?_
    show Steps p.tables e below (T3.setTop (mkF m 96 #[.val (.int p1), .val (.int p2), .val (.int p3), .val (.int p4), .val (.int (lw_n p1 p2 p3 p4)), .val (.int (lw_k p1 p2 p3 p4)), .val (.double (lw_op p1 p2 p3 p4)), .second, .val (.double (lw_cl p1 p2 p3 p4)), .second, .val (.ref ad1), .val (.double (lw_s p1 p2 p3 p4)), .second, .val (.long (lw_p p1 p2 p3 p4)), .second, .val (.long (lw_q p1 p2 p3 p4)), .second, .val (.long (lw_r p1 p2 p3 p4)), .second, .unset, .unset, .unset, .unset] [(.long ((Int32.toInt64 p1) + (lw_q p1 p2 p3 p4))), (.double (lw_s p1 p2 p3 p4))])) _
    refine XS.l2dS X3.here hx rfl (hb hby at_96) rfl rfl ?_
    show Steps p.tables e below (T3.setTop (mkF m 97 #[.val (.int p1), .val (.int p2), .val (.int p3), .val (.int p4), .val (.int (lw_n p1 p2 p3 p4)), .val (.int (lw_k p1 p2 p3 p4)), .val (.double (lw_op p1 p2 p3 p4)), .second, .val (.double (lw_cl p1 p2 p3 p4)), .second, .val (.ref ad1), .val (.double (lw_s p1 p2 p3 p4)), .second, .val (.long (lw_p p1 p2 p3 p4)), .second, .val (.long (lw_q p1 p2 p3 p4)), .second, .val (.long (lw_r p1 p2 p3 p4)), .second, .unset, .unset, .unset, .unset] [(.double (FP.l2d ((Int32.toInt64 p1) + (lw_q p1 p2 p3 p4)))), (.double (lw_s p1 p2 p3 p4))])) _
    refine XS.dcmpS X3.here hx rfl (hb hby at_97) rfl rfl ?_
    show Steps p.tables e below (T3.setTop (mkF m 98 #[.val (.int p1), .val (.int p2), .val (.int p3), .val (.int p4), .val (.int (lw_n p1 p2 p3 p4)), .val (.int (lw_k p1 p2 p3 p4)), .val (.double (lw_op p1 p2 p3 p4)), .second, .val (.double (lw_cl p1 p2 p3 p4)), .second, .val (.ref ad1), .val (.double (lw_s p1 p2 p3 p4)), .second, .val (.long (lw_p p1 p2 p3 p4)), .second, .val (.long (lw_q p1 p2 p3 p4)), .second, .val (.long (lw_r p1 p2 p3 p4)), .second, .unset, .unset, .unset, .unset] [(.int (cmpValue (FP.dcmp (lw_s p1 p2 p3 p4) (FP.l2d ((Int32.toInt64 p1) + (lw_q p1 p2 p3 p4)))) .l))])) _
    refine XS.ifNo X3.here hx rfl (hb hby at_98) rfl (own_e0 p1 p2 p3 p4 hr0) ?_
    show Steps p.tables e below (T3.setTop (mkF m 101 #[.val (.int p1), .val (.int p2), .val (.int p3), .val (.int p4), .val (.int (lw_n p1 p2 p3 p4)), .val (.int (lw_k p1 p2 p3 p4)), .val (.double (lw_op p1 p2 p3 p4)), .second, .val (.double (lw_cl p1 p2 p3 p4)), .second, .val (.ref ad1), .val (.double (lw_s p1 p2 p3 p4)), .second, .val (.long (lw_p p1 p2 p3 p4)), .second, .val (.long (lw_q p1 p2 p3 p4)), .second, .val (.long (lw_r p1 p2 p3 p4)), .second, .unset, .unset, .unset, .unset] [])) _
    refine XS.iconst X3.here hx rfl (hb hby at_101) ?_
    show Steps p.tables e below (T3.setTop (mkF m 102 #[.val (.int p1), .val (.int p2), .val (.int p3), .val (.int p4), .val (.int (lw_n p1 p2 p3 p4)), .val (.int (lw_k p1 p2 p3 p4)), .val (.double (lw_op p1 p2 p3 p4)), .second, .val (.double (lw_cl p1 p2 p3 p4)), .second, .val (.ref ad1), .val (.double (lw_s p1 p2 p3 p4)), .second, .val (.long (lw_p p1 p2 p3 p4)), .second, .val (.long (lw_q p1 p2 p3 p4)), .second, .val (.long (lw_r p1 p2 p3 p4)), .second, .unset, .unset, .unset, .unset] [(.int (1 : Int32))])) _
    refine XS.goto X3.here hx rfl (pc0 := 102) (pc' := 106) rfl (hb hby at_102) (by decide) (by decide) ?_
    show Steps p.tables e below (T3.setTop (mkF m 106 #[.val (.int p1), .val (.int p2), .val (.int p3), .val (.int p4), .val (.int (lw_n p1 p2 p3 p4)), .val (.int (lw_k p1 p2 p3 p4)), .val (.double (lw_op p1 p2 p3 p4)), .second, .val (.double (lw_cl p1 p2 p3 p4)), .second, .val (.ref ad1), .val (.double (lw_s p1 p2 p3 p4)), .second, .val (.long (lw_p p1 p2 p3 p4)), .second, .val (.long (lw_q p1 p2 p3 p4)), .second, .val (.long (lw_r p1 p2 p3 p4)), .second, .unset, .unset, .unset, .unset] [(.int (1 : Int32))])) _
    exact retN X3 hx (t := .boolean) Bd.returns (by simp) (hb hby at_106) hr
  · show Q_lw Z p1 p2 p3 p4  h0 n0 _ T3.heap _
    exact ⟨rfl, Nn3⟩
theorem ef_lx (m : MethodId) (p1 : Int32) (p2 : Int32) (p3 : Int32) (p4 : Int32) : entryFrame m #[(.int p1), (.int p2), (.int p3), (.int p4)] maxLocals = (mkF m 0 #[.val (.int p1), .val (.int p2), .val (.int p3), .val (.int p4), .unset, .unset, .unset, .unset, .unset, .unset, .unset, .unset, .unset, .unset, .unset, .unset, .unset, .unset, .unset, .unset, .unset, .unset, .unset] []) := by first | (simp [entryFrame, mkF, argsToLocals, Value.category, maxLocals]; done) | rfl
def Q_lx (Z : State) (p1 : Int32) (p2 : Int32) (p3 : Int32) (p4 : Int32)  (h0 : Heap) (n0 : Nat) (v : Option Value) (h : Heap) (L : List Loc) : Prop := v = some (.int 1) ∧ Fr n0 L
set_option maxRecDepth 65536 in
set_option maxHeartbeats 40000000 in
theorem rm_lx (l : Launch) (Z : State) (a0 : Array Value) (hw : ∀ d ∈ tables_1, d.before a0 Z = true) (ws : List Jvm.Cond) (p1 : Int32) (p2 : Int32) (p3 : Int32) (p4 : Int32)  (h0 : Heap) (n0 : Nat) (Z0 : n0 ≤ h0.size)  (hr0 : ifCond.holds .ne (XT.cmpL (lx_r p1 p2 p3 p4) (0 : Int64)) = true)  :
    MetFree l x (head1 (Jvm.Cond.code x code maxLocals ret :: ws) room_1) (fun a U => a = #[(.int p1), (.int p2), (.int p3), (.int p4)] ∧ Z.Warmed39 U.vm ∧ U.heap = h0) (fun _ _ _ _ _ => True) (fun _ U o U' => ∃ v L, o = .returned v ∧ Q_lx Z p1 p2 p3 p4  h0 n0 v U'.heap L ∧ FrameEnd U o U' L 1 3) := by
  refine MetFree.of_bodySF (plainFor_of_name pn_2) hisR ?_
  intro p e s m args below meth c s₁ Bd hml0 hP hK
  obtain ⟨rfl, hZ, hh⟩ := hP
  have hx := Bd.exec
  have hby := Bd.bytes
  have hml : c.maxLocals = 23 := hml0
  have hown : s.vm.findClass "com/example/trailhive/trailhive/DaySlicesStartPinLaw" = some m.cls := findClass_of_methodNamed Bd.named
  have hnm := (name_of_methodNamed Bd.named Bd.method).1
  have X0 : Stand p l e room_1 s m #[(.int p1), (.int p2), (.int p3), (.int p4)] below meth c s₁ [] 0 0 := Stand.of_body Bd
  have e0 : s₁.heap = h0 := by rw [← hh, Bd.state]; rfl
  have N0 := Fr.nil n0
  have pre0 : ∀ t, Steps p.tables e below (s₁.setTop (mkF m 0 #[.val (.int p1), .val (.int p2), .val (.int p3), .val (.int p4), .unset, .unset, .unset, .unset, .unset, .unset, .unset, .unset, .unset, .unset, .unset, .unset, .unset, .unset, .unset, .unset, .unset, .unset, .unset] [])) t → Steps p.tables e below (s₁.setTop (entryFrame m #[(.int p1), (.int p2), (.int p3), (.int p4)] maxLocals)) t := fun t k => castTop (ef_lx m p1 p2 p3 p4) k
  obtain ⟨T1, h1, X1, e1, E1, A1, D1, -, st1⟩ := newO X0 hx hZ hown (hw _ (List.mem_of_getElem? (i := 1) rfl)) (hw _ (List.mem_of_getElem? (i := 2) rfl)) (hw _ (List.mem_of_getElem? (i := 3) rfl)) e0 (g := (mkF m 32 #[.val (.int p1), .val (.int p2), .val (.int p3), .val (.int p4), .val (.int (lx_n p1 p2 p3 p4)), .val (.int (lx_k p1 p2 p3 p4)), .val (.double (lx_op p1 p2 p3 p4)), .second, .val (.double (lx_cl p1 p2 p3 p4)), .second, .unset, .unset, .unset, .unset, .unset, .unset, .unset, .unset, .unset, .unset, .unset, .unset, .unset] [])) rfl (hb hby at_32) (by decide) (by decide)
  obtain ⟨ad1, g1⟩ : ∃ z, z = (h0).size := ⟨_, rfl⟩
  rw [← g1] at A1 D1 st1
  have F1_0 : Fld Z h1 ad1 "com/example/trailhive/trailhive/DaySlices" "opens" "D" (.double (0 : UInt64)) := (D1 (Or.inr (hw _ (List.mem_of_getElem? (i := 16) rfl))) (ty := .double) (by decide))
  have F1_1 : Fld Z h1 ad1 "com/example/trailhive/trailhive/DaySlices" "closes" "D" (.double (0 : UInt64)) := (D1 (Or.inr (hw _ (List.mem_of_getElem? (i := 18) rfl))) (ty := .double) (by decide))
  have F1_2 : Fld Z h1 ad1 "com/example/trailhive/trailhive/DaySlices" "count" "I" (.int (0 : Int32)) := (D1 (Or.inr (hw _ (List.mem_of_getElem? (i := 20) rfl))) (ty := .int) (by decide))
  have Z1 : n0 ≤ h1.size := Nat.le_trans Z0 E1.1
  have gn1 : n0 ≤ ad1 := Nat.le_trans Z0 (Nat.le_of_eq g1.symm)
  obtain ⟨_, _, ⟨T2, L2, k2, n2⟩, -, X2, ⟨Lc2, hQ2, l2, y2, z2⟩, st2⟩ := X1.specialBack hx (y := (⟨"com/example/trailhive/trailhive/DaySlices", "<init>", "(DDI)V"⟩ : MethodName)) rfl hown (mvT hZ (hw _ (List.mem_of_getElem? (i := 4) rfl))) (mvT hZ (hw _ (List.mem_of_getElem? (i := 5) rfl))) (mvT hZ (hw _ (List.mem_of_getElem? (i := 6) rfl))) (by decide) (backOf (W := 1) (rm_ini l Z a0 hw [] ad1 (lx_op p1 p2 p3 p4) (lx_cl p1 p2 p3 p4) (lx_n p1 p2 p3 p4)  (h1) n0 Z1 F1_0 F1_1 F1_2 A1 gn1 (own_ge p1 p2 p3 p4)) hZ (hw _ (List.mem_of_getElem? (i := 6) rfl)) (hw _ (List.mem_of_getElem? (i := 3) rfl)) (by decide) (by decide)) (g := (mkF m 42 #[.val (.int p1), .val (.int p2), .val (.int p3), .val (.int p4), .val (.int (lx_n p1 p2 p3 p4)), .val (.int (lx_k p1 p2 p3 p4)), .val (.double (lx_op p1 p2 p3 p4)), .second, .val (.double (lx_cl p1 p2 p3 p4)), .second, .unset, .unset, .unset, .unset, .unset, .unset, .unset, .unset, .unset, .unset, .unset, .unset, .unset] [(.int (lx_n p1 p2 p3 p4)), (.double (lx_cl p1 p2 p3 p4)), (.double (lx_op p1 p2 p3 p4)), (.ref ad1), (.ref ad1)])) rfl (by rw [hml]; rfl) (Steps.refl _) (a := ad1) (argsL := [(.double (lx_op p1 p2 p3 p4)), (.double (lx_cl p1 p2 p3 p4)), (.int (lx_n p1 p2 p3 p4))]) (rest := [(.ref ad1)]) (lenOf pd_2 rfl) rfl (by show 2 * 0 + _ ≤ _; exact Nat.le_of_eq rfl) (hb hby at_42) (fun _ _ => ⟨rfl, e1, (by decide : 1 + 0 ≤ _), (by decide : 3 + 0 ≤ _)⟩)
  dsimp only [Pt.U, Pt.locs, Pt.cells, Pt.slots] at X2 l2 y2 z2 st2 hQ2
  subst l2 y2 z2
  obtain ⟨rfl, N2, K2, p2_0, p2_1, p2_2, p2_3⟩ := hQ2
  have Nn2 := Fr.app N0 N2
  have Z2 : n0 ≤ T2.heap.size := Nat.le_trans Z1 K2.1
  obtain ⟨cq3, kq3, qa3, qb3, qc3⟩ := isOf hZ rfl p2_0
  obtain ⟨_, _, ⟨T3, L3, k3, n3⟩, -, X3, ⟨Lc3, hQ3, l3, y3, z3⟩, st3⟩ := X2.virtualBack hx (y := (⟨"com/example/trailhive/trailhive/DaySlices", "start", "(I)D"⟩ : MethodName)) (z := (⟨"com/example/trailhive/trailhive/DaySlices", "start", "(I)D"⟩ : MethodName)) hown (mvT hZ (hw _ (List.mem_of_getElem? (i := 21) rfl))) (mvT hZ (hw _ (List.mem_of_getElem? (i := 22) rfl))) (notFace_of_selects (args := #[]) (mvT hZ (hw _ (List.mem_of_getElem? (i := 24) rfl)))) (mvT hZ (hw _ (List.mem_of_getElem? (i := 24) rfl))) (mvT hZ (hw _ (List.mem_of_getElem? (i := 23) rfl))) (by decide) (backOf (W := 0) (rm_st l Z a0 hw [] ad1 (lx_k p1 p2 p3 p4) (lx_op p1 p2 p3 p4) (lx_cl p1 p2 p3 p4) (lx_n p1 p2 p3 p4) (T2.heap) n0 Z2 p2_0 p2_1 p2_2 p2_3 (own_s1 p1 p2 p3 p4) (own_s2 p1 p2 p3 p4) (own_s3 p1 p2 p3 p4) (own_s p1 p2 p3 p4).1 (own_s p1 p2 p3 p4).2.1 (own_s p1 p2 p3 p4).2.2.1 (own_s p1 p2 p3 p4).2.2.2) hZ (hw _ (List.mem_of_getElem? (i := 25) rfl)) (hw _ (List.mem_of_getElem? (i := 3) rfl)) (by decide) (by decide)) qa3 qc3 (g := (mkF m 51 #[.val (.int p1), .val (.int p2), .val (.int p3), .val (.int p4), .val (.int (lx_n p1 p2 p3 p4)), .val (.int (lx_k p1 p2 p3 p4)), .val (.double (lx_op p1 p2 p3 p4)), .second, .val (.double (lx_cl p1 p2 p3 p4)), .second, .val (.ref ad1), .unset, .unset, .unset, .unset, .unset, .unset, .unset, .unset, .unset, .unset, .unset, .unset] [(.int (lx_k p1 p2 p3 p4)), (.ref ad1)])) rfl (by rw [hml]; rfl) (Steps.refl _) (argsL := [(.int (lx_k p1 p2 p3 p4))]) (rest := []) (lenOf pd_1 rfl) rfl (by show 2 * 0 + _ ≤ _; exact Nat.le_of_eq rfl) (hb hby at_51) (fun _ _ => ⟨rfl, rfl, (by decide : 1 + 0 ≤ _), (by decide : 3 + 0 ≤ _)⟩)
  dsimp only [Pt.U, Pt.locs, Pt.cells, Pt.slots] at X3 l3 y3 z3 st3 hQ3
  subst l3 y3 z3
  obtain ⟨rfl, N3, e3⟩ := hQ3
  have Nn3 := Fr.app Nn2 N3
  obtain ⟨fs, hr, hrun, hended, hW, hsame⟩ := X3.leave (v := some (.int (1 : Int32))) (fun h => by rw [Bd.returns] at h; cases h)
  refine ⟨_, _, pre0 _ ?_, hrun, hended, _, _, rfl, ?_, ⟨_, rfl⟩, hW, hsame.mono (Nat.le_of_ble_eq_true rfl) (Nat.le_of_ble_eq_true rfl)⟩
  · show Steps p.tables e below (s₁.setTop (mkF m 0 #[.val (.int p1), .val (.int p2), .val (.int p3), .val (.int p4), .unset, .unset, .unset, .unset, .unset, .unset, .unset, .unset, .unset, .unset, .unset, .unset, .unset, .unset, .unset, .unset, .unset, .unset, .unset] [])) _
    refine XS.iloadN X0.here hx rfl (hb hby at_0) rfl ?_
    show Steps p.tables e below (s₁.setTop (mkF m 1 #[.val (.int p1), .val (.int p2), .val (.int p3), .val (.int p4), .unset, .unset, .unset, .unset, .unset, .unset, .unset, .unset, .unset, .unset, .unset, .unset, .unset, .unset, .unset, .unset, .unset, .unset, .unset] [(.int p3)])) _
    refine XS.sipush X0.here hx rfl (hb hby at_1) ?_
    show Steps p.tables e below (s₁.setTop (mkF m 4 #[.val (.int p1), .val (.int p2), .val (.int p3), .val (.int p4), .unset, .unset, .unset, .unset, .unset, .unset, .unset, .unset, .unset, .unset, .unset, .unset, .unset, .unset, .unset, .unset, .unset, .unset, .unset] [(.int (1023 : Int32)), (.int p3)])) _
    refine XS.iand X0.here hx rfl (hb hby at_4) rfl ?_
    show Steps p.tables e below (s₁.setTop (mkF m 5 #[.val (.int p1), .val (.int p2), .val (.int p3), .val (.int p4), .unset, .unset, .unset, .unset, .unset, .unset, .unset, .unset, .unset, .unset, .unset, .unset, .unset, .unset, .unset, .unset, .unset, .unset, .unset] [(.int (p3 &&& (1023 : Int32)))])) _
    refine XS.iconst X0.here hx rfl (hb hby at_5) ?_
    show Steps p.tables e below (s₁.setTop (mkF m 6 #[.val (.int p1), .val (.int p2), .val (.int p3), .val (.int p4), .unset, .unset, .unset, .unset, .unset, .unset, .unset, .unset, .unset, .unset, .unset, .unset, .unset, .unset, .unset, .unset, .unset, .unset, .unset] [(.int (1 : Int32)), (.int (p3 &&& (1023 : Int32)))])) _
    refine XS.iadd X0.here hx rfl (hb hby at_6) rfl ?_
    show Steps p.tables e below (s₁.setTop (mkF m 7 #[.val (.int p1), .val (.int p2), .val (.int p3), .val (.int p4), .unset, .unset, .unset, .unset, .unset, .unset, .unset, .unset, .unset, .unset, .unset, .unset, .unset, .unset, .unset, .unset, .unset, .unset, .unset] [(.int ((p3 &&& (1023 : Int32)) + (1 : Int32)))])) _
    refine XS.istore X0.here hx rfl (hb hby at_7) rfl (l' := #[.val (.int p1), .val (.int p2), .val (.int p3), .val (.int p4), .val (.int (lx_n p1 p2 p3 p4)), .unset, .unset, .unset, .unset, .unset, .unset, .unset, .unset, .unset, .unset, .unset, .unset, .unset, .unset, .unset, .unset, .unset, .unset]) rfl ?_
    show Steps p.tables e below (s₁.setTop (mkF m 9 #[.val (.int p1), .val (.int p2), .val (.int p3), .val (.int p4), .val (.int (lx_n p1 p2 p3 p4)), .unset, .unset, .unset, .unset, .unset, .unset, .unset, .unset, .unset, .unset, .unset, .unset, .unset, .unset, .unset, .unset, .unset, .unset] [])) _
    refine XS.iloadN X0.here hx rfl (hb hby at_9) rfl ?_
    show Steps p.tables e below (s₁.setTop (mkF m 10 #[.val (.int p1), .val (.int p2), .val (.int p3), .val (.int p4), .val (.int (lx_n p1 p2 p3 p4)), .unset, .unset, .unset, .unset, .unset, .unset, .unset, .unset, .unset, .unset, .unset, .unset, .unset, .unset, .unset, .unset, .unset, .unset] [(.int p4)])) _
    refine X0.ldcI hx hown (mvT hZ (hw _ (List.mem_of_getElem? (i := 0) rfl))) (g := (mkF m 10 #[.val (.int p1), .val (.int p2), .val (.int p3), .val (.int p4), .val (.int (lx_n p1 p2 p3 p4)), .unset, .unset, .unset, .unset, .unset, .unset, .unset, .unset, .unset, .unset, .unset, .unset, .unset, .unset, .unset, .unset, .unset, .unset] [(.int p4)])) rfl (hb hby at_10) ?_
    show Steps p.tables e below (s₁.setTop (mkF m 12 #[.val (.int p1), .val (.int p2), .val (.int p3), .val (.int p4), .val (.int (lx_n p1 p2 p3 p4)), .unset, .unset, .unset, .unset, .unset, .unset, .unset, .unset, .unset, .unset, .unset, .unset, .unset, .unset, .unset, .unset, .unset, .unset] [(.int (2147483647 : Int32)), (.int p4)])) _
    refine XS.iand X0.here hx rfl (hb hby at_12) rfl ?_
    show Steps p.tables e below (s₁.setTop (mkF m 13 #[.val (.int p1), .val (.int p2), .val (.int p3), .val (.int p4), .val (.int (lx_n p1 p2 p3 p4)), .unset, .unset, .unset, .unset, .unset, .unset, .unset, .unset, .unset, .unset, .unset, .unset, .unset, .unset, .unset, .unset, .unset, .unset] [(.int (p4 &&& (2147483647 : Int32)))])) _
    refine XS.iload X0.here hx rfl (hb hby at_13) rfl ?_
    show Steps p.tables e below (s₁.setTop (mkF m 15 #[.val (.int p1), .val (.int p2), .val (.int p3), .val (.int p4), .val (.int (lx_n p1 p2 p3 p4)), .unset, .unset, .unset, .unset, .unset, .unset, .unset, .unset, .unset, .unset, .unset, .unset, .unset, .unset, .unset, .unset, .unset, .unset] [(.int (lx_n p1 p2 p3 p4)), (.int (p4 &&& (2147483647 : Int32)))])) _
    refine XS.irem X0.here hx rfl (hb hby at_15) rfl (own_n0 p1 p2 p3 p4) ?_
    show Steps p.tables e below (s₁.setTop (mkF m 16 #[.val (.int p1), .val (.int p2), .val (.int p3), .val (.int p4), .val (.int (lx_n p1 p2 p3 p4)), .unset, .unset, .unset, .unset, .unset, .unset, .unset, .unset, .unset, .unset, .unset, .unset, .unset, .unset, .unset, .unset, .unset, .unset] [(.int ((p4 &&& (2147483647 : Int32)) - (p4 &&& (2147483647 : Int32)) / (lx_n p1 p2 p3 p4) * (lx_n p1 p2 p3 p4)))])) _
    refine XS.iconst X0.here hx rfl (hb hby at_16) ?_
    show Steps p.tables e below (s₁.setTop (mkF m 17 #[.val (.int p1), .val (.int p2), .val (.int p3), .val (.int p4), .val (.int (lx_n p1 p2 p3 p4)), .unset, .unset, .unset, .unset, .unset, .unset, .unset, .unset, .unset, .unset, .unset, .unset, .unset, .unset, .unset, .unset, .unset, .unset] [(.int (1 : Int32)), (.int ((p4 &&& (2147483647 : Int32)) - (p4 &&& (2147483647 : Int32)) / (lx_n p1 p2 p3 p4) * (lx_n p1 p2 p3 p4)))])) _
    refine XS.iadd X0.here hx rfl (hb hby at_17) rfl ?_
    show Steps p.tables e below (s₁.setTop (mkF m 18 #[.val (.int p1), .val (.int p2), .val (.int p3), .val (.int p4), .val (.int (lx_n p1 p2 p3 p4)), .unset, .unset, .unset, .unset, .unset, .unset, .unset, .unset, .unset, .unset, .unset, .unset, .unset, .unset, .unset, .unset, .unset, .unset] [(.int (((p4 &&& (2147483647 : Int32)) - (p4 &&& (2147483647 : Int32)) / (lx_n p1 p2 p3 p4) * (lx_n p1 p2 p3 p4)) + (1 : Int32)))])) _
    refine XS.istore X0.here hx rfl (hb hby at_18) rfl (l' := #[.val (.int p1), .val (.int p2), .val (.int p3), .val (.int p4), .val (.int (lx_n p1 p2 p3 p4)), .val (.int (lx_k p1 p2 p3 p4)), .unset, .unset, .unset, .unset, .unset, .unset, .unset, .unset, .unset, .unset, .unset, .unset, .unset, .unset, .unset, .unset, .unset]) rfl ?_
    show Steps p.tables e below (s₁.setTop (mkF m 20 #[.val (.int p1), .val (.int p2), .val (.int p3), .val (.int p4), .val (.int (lx_n p1 p2 p3 p4)), .val (.int (lx_k p1 p2 p3 p4)), .unset, .unset, .unset, .unset, .unset, .unset, .unset, .unset, .unset, .unset, .unset, .unset, .unset, .unset, .unset, .unset, .unset] [])) _
    refine XS.iloadN X0.here hx rfl (hb hby at_20) rfl ?_
    show Steps p.tables e below (s₁.setTop (mkF m 21 #[.val (.int p1), .val (.int p2), .val (.int p3), .val (.int p4), .val (.int (lx_n p1 p2 p3 p4)), .val (.int (lx_k p1 p2 p3 p4)), .unset, .unset, .unset, .unset, .unset, .unset, .unset, .unset, .unset, .unset, .unset, .unset, .unset, .unset, .unset, .unset, .unset] [(.int p1)])) _
    refine XS.i2dS X0.here hx rfl (hb hby at_21) rfl rfl ?_
    show Steps p.tables e below (s₁.setTop (mkF m 22 #[.val (.int p1), .val (.int p2), .val (.int p3), .val (.int p4), .val (.int (lx_n p1 p2 p3 p4)), .val (.int (lx_k p1 p2 p3 p4)), .unset, .unset, .unset, .unset, .unset, .unset, .unset, .unset, .unset, .unset, .unset, .unset, .unset, .unset, .unset, .unset, .unset] [(.double (FP.i2d p1))])) _
    refine XS.dstore X0.here hx rfl (hb hby at_22) rfl (l' := #[.val (.int p1), .val (.int p2), .val (.int p3), .val (.int p4), .val (.int (lx_n p1 p2 p3 p4)), .val (.int (lx_k p1 p2 p3 p4)), .val (.double (lx_op p1 p2 p3 p4)), .second, .unset, .unset, .unset, .unset, .unset, .unset, .unset, .unset, .unset, .unset, .unset, .unset, .unset, .unset, .unset]) rfl ?_
    show Steps p.tables e below (s₁.setTop (mkF m 24 #[.val (.int p1), .val (.int p2), .val (.int p3), .val (.int p4), .val (.int (lx_n p1 p2 p3 p4)), .val (.int (lx_k p1 p2 p3 p4)), .val (.double (lx_op p1 p2 p3 p4)), .second, .unset, .unset, .unset, .unset, .unset, .unset, .unset, .unset, .unset, .unset, .unset, .unset, .unset, .unset, .unset] [])) _
    refine XS.iloadN X0.here hx rfl (hb hby at_24) rfl ?_
    show Steps p.tables e below (s₁.setTop (mkF m 25 #[.val (.int p1), .val (.int p2), .val (.int p3), .val (.int p4), .val (.int (lx_n p1 p2 p3 p4)), .val (.int (lx_k p1 p2 p3 p4)), .val (.double (lx_op p1 p2 p3 p4)), .second, .unset, .unset, .unset, .unset, .unset, .unset, .unset, .unset, .unset, .unset, .unset, .unset, .unset, .unset, .unset] [(.int p1)])) _
    refine XT.i2l X0.here hx rfl (hb hby at_25) rfl ?_
    show Steps p.tables e below (s₁.setTop (mkF m 26 #[.val (.int p1), .val (.int p2), .val (.int p3), .val (.int p4), .val (.int (lx_n p1 p2 p3 p4)), .val (.int (lx_k p1 p2 p3 p4)), .val (.double (lx_op p1 p2 p3 p4)), .second, .unset, .unset, .unset, .unset, .unset, .unset, .unset, .unset, .unset, .unset, .unset, .unset, .unset, .unset, .unset] [(.long (Int32.toInt64 p1))])) _
    refine XS.iloadN X0.here hx rfl (hb hby at_26) rfl ?_
    show Steps p.tables e below (s₁.setTop (mkF m 27 #[.val (.int p1), .val (.int p2), .val (.int p3), .val (.int p4), .val (.int (lx_n p1 p2 p3 p4)), .val (.int (lx_k p1 p2 p3 p4)), .val (.double (lx_op p1 p2 p3 p4)), .second, .unset, .unset, .unset, .unset, .unset, .unset, .unset, .unset, .unset, .unset, .unset, .unset, .unset, .unset, .unset] [(.int p2), (.long (Int32.toInt64 p1))])) _
    refine XT.i2l X0.here hx rfl (hb hby at_27) rfl ?_
    show Steps p.tables e below (s₁.setTop (mkF m 28 #[.val (.int p1), .val (.int p2), .val (.int p3), .val (.int p4), .val (.int (lx_n p1 p2 p3 p4)), .val (.int (lx_k p1 p2 p3 p4)), .val (.double (lx_op p1 p2 p3 p4)), .second, .unset, .unset, .unset, .unset, .unset, .unset, .unset, .unset, .unset, .unset, .unset, .unset, .unset, .unset, .unset] [(.long (Int32.toInt64 p2)), (.long (Int32.toInt64 p1))])) _
    refine XT.ladd X0.here hx rfl (hb hby at_28) rfl ?_
    show Steps p.tables e below (s₁.setTop (mkF m 29 #[.val (.int p1), .val (.int p2), .val (.int p3), .val (.int p4), .val (.int (lx_n p1 p2 p3 p4)), .val (.int (lx_k p1 p2 p3 p4)), .val (.double (lx_op p1 p2 p3 p4)), .second, .unset, .unset, .unset, .unset, .unset, .unset, .unset, .unset, .unset, .unset, .unset, .unset, .unset, .unset, .unset] [(.long ((Int32.toInt64 p1) + (Int32.toInt64 p2)))])) _
    refine XS.l2dS X0.here hx rfl (hb hby at_29) rfl rfl ?_
    show Steps p.tables e below (s₁.setTop (mkF m 30 #[.val (.int p1), .val (.int p2), .val (.int p3), .val (.int p4), .val (.int (lx_n p1 p2 p3 p4)), .val (.int (lx_k p1 p2 p3 p4)), .val (.double (lx_op p1 p2 p3 p4)), .second, .unset, .unset, .unset, .unset, .unset, .unset, .unset, .unset, .unset, .unset, .unset, .unset, .unset, .unset, .unset] [(.double (FP.l2d ((Int32.toInt64 p1) + (Int32.toInt64 p2))))])) _
    refine XS.dstore X0.here hx rfl (hb hby at_30) rfl (l' := #[.val (.int p1), .val (.int p2), .val (.int p3), .val (.int p4), .val (.int (lx_n p1 p2 p3 p4)), .val (.int (lx_k p1 p2 p3 p4)), .val (.double (lx_op p1 p2 p3 p4)), .second, .val (.double (lx_cl p1 p2 p3 p4)), .second, .unset, .unset, .unset, .unset, .unset, .unset, .unset, .unset, .unset, .unset, .unset, .unset, .unset]) rfl ?_
    show Steps p.tables e below (s₁.setTop (mkF m 32 #[.val (.int p1), .val (.int p2), .val (.int p3), .val (.int p4), .val (.int (lx_n p1 p2 p3 p4)), .val (.int (lx_k p1 p2 p3 p4)), .val (.double (lx_op p1 p2 p3 p4)), .second, .val (.double (lx_cl p1 p2 p3 p4)), .second, .unset, .unset, .unset, .unset, .unset, .unset, .unset, .unset, .unset, .unset, .unset, .unset, .unset] [])) _
    refine st1 _ ?_
    show Steps p.tables e below (T1.setTop (mkF m 35 #[.val (.int p1), .val (.int p2), .val (.int p3), .val (.int p4), .val (.int (lx_n p1 p2 p3 p4)), .val (.int (lx_k p1 p2 p3 p4)), .val (.double (lx_op p1 p2 p3 p4)), .second, .val (.double (lx_cl p1 p2 p3 p4)), .second, .unset, .unset, .unset, .unset, .unset, .unset, .unset, .unset, .unset, .unset, .unset, .unset, .unset] [(.ref ad1)])) _
    refine XS.dup X1.here hx rfl (hb hby at_35) rfl rfl ?_
    show Steps p.tables e below (T1.setTop (mkF m 36 #[.val (.int p1), .val (.int p2), .val (.int p3), .val (.int p4), .val (.int (lx_n p1 p2 p3 p4)), .val (.int (lx_k p1 p2 p3 p4)), .val (.double (lx_op p1 p2 p3 p4)), .second, .val (.double (lx_cl p1 p2 p3 p4)), .second, .unset, .unset, .unset, .unset, .unset, .unset, .unset, .unset, .unset, .unset, .unset, .unset, .unset] [(.ref ad1), (.ref ad1)])) _
    refine XS.dload X1.here hx rfl (hb hby at_36) rfl ?_
    show Steps p.tables e below (T1.setTop (mkF m 38 #[.val (.int p1), .val (.int p2), .val (.int p3), .val (.int p4), .val (.int (lx_n p1 p2 p3 p4)), .val (.int (lx_k p1 p2 p3 p4)), .val (.double (lx_op p1 p2 p3 p4)), .second, .val (.double (lx_cl p1 p2 p3 p4)), .second, .unset, .unset, .unset, .unset, .unset, .unset, .unset, .unset, .unset, .unset, .unset, .unset, .unset] [(.double (lx_op p1 p2 p3 p4)), (.ref ad1), (.ref ad1)])) _
    refine XS.dload X1.here hx rfl (hb hby at_38) rfl ?_
    show Steps p.tables e below (T1.setTop (mkF m 40 #[.val (.int p1), .val (.int p2), .val (.int p3), .val (.int p4), .val (.int (lx_n p1 p2 p3 p4)), .val (.int (lx_k p1 p2 p3 p4)), .val (.double (lx_op p1 p2 p3 p4)), .second, .val (.double (lx_cl p1 p2 p3 p4)), .second, .unset, .unset, .unset, .unset, .unset, .unset, .unset, .unset, .unset, .unset, .unset, .unset, .unset] [(.double (lx_cl p1 p2 p3 p4)), (.double (lx_op p1 p2 p3 p4)), (.ref ad1), (.ref ad1)])) _
    refine XS.iload X1.here hx rfl (hb hby at_40) rfl ?_
    show Steps p.tables e below (T1.setTop (mkF m 42 #[.val (.int p1), .val (.int p2), .val (.int p3), .val (.int p4), .val (.int (lx_n p1 p2 p3 p4)), .val (.int (lx_k p1 p2 p3 p4)), .val (.double (lx_op p1 p2 p3 p4)), .second, .val (.double (lx_cl p1 p2 p3 p4)), .second, .unset, .unset, .unset, .unset, .unset, .unset, .unset, .unset, .unset, .unset, .unset, .unset, .unset] [(.int (lx_n p1 p2 p3 p4)), (.double (lx_cl p1 p2 p3 p4)), (.double (lx_op p1 p2 p3 p4)), (.ref ad1), (.ref ad1)])) _
    refine st2.trans ?_
    show Steps p.tables e below (T2.setTop (mkF m 45 #[.val (.int p1), .val (.int p2), .val (.int p3), .val (.int p4), .val (.int (lx_n p1 p2 p3 p4)), .val (.int (lx_k p1 p2 p3 p4)), .val (.double (lx_op p1 p2 p3 p4)), .second, .val (.double (lx_cl p1 p2 p3 p4)), .second, .unset, .unset, .unset, .unset, .unset, .unset, .unset, .unset, .unset, .unset, .unset, .unset, .unset] [(.ref ad1)])) _
    refine XS.astore X2.here hx rfl (hb hby at_45) rfl rfl (l' := #[.val (.int p1), .val (.int p2), .val (.int p3), .val (.int p4), .val (.int (lx_n p1 p2 p3 p4)), .val (.int (lx_k p1 p2 p3 p4)), .val (.double (lx_op p1 p2 p3 p4)), .second, .val (.double (lx_cl p1 p2 p3 p4)), .second, .val (.ref ad1), .unset, .unset, .unset, .unset, .unset, .unset, .unset, .unset, .unset, .unset, .unset, .unset]) rfl ?_
    show Steps p.tables e below (T2.setTop (mkF m 47 #[.val (.int p1), .val (.int p2), .val (.int p3), .val (.int p4), .val (.int (lx_n p1 p2 p3 p4)), .val (.int (lx_k p1 p2 p3 p4)), .val (.double (lx_op p1 p2 p3 p4)), .second, .val (.double (lx_cl p1 p2 p3 p4)), .second, .val (.ref ad1), .unset, .unset, .unset, .unset, .unset, .unset, .unset, .unset, .unset, .unset, .unset, .unset] [])) _
    refine XS.aload X2.here hx rfl (hb hby at_47) rfl rfl ?_
    show Steps p.tables e below (T2.setTop (mkF m 49 #[.val (.int p1), .val (.int p2), .val (.int p3), .val (.int p4), .val (.int (lx_n p1 p2 p3 p4)), .val (.int (lx_k p1 p2 p3 p4)), .val (.double (lx_op p1 p2 p3 p4)), .second, .val (.double (lx_cl p1 p2 p3 p4)), .second, .val (.ref ad1), .unset, .unset, .unset, .unset, .unset, .unset, .unset, .unset, .unset, .unset, .unset, .unset] [(.ref ad1)])) _
    refine XS.iload X2.here hx rfl (hb hby at_49) rfl ?_
    show Steps p.tables e below (T2.setTop (mkF m 51 #[.val (.int p1), .val (.int p2), .val (.int p3), .val (.int p4), .val (.int (lx_n p1 p2 p3 p4)), .val (.int (lx_k p1 p2 p3 p4)), .val (.double (lx_op p1 p2 p3 p4)), .second, .val (.double (lx_cl p1 p2 p3 p4)), .second, .val (.ref ad1), .unset, .unset, .unset, .unset, .unset, .unset, .unset, .unset, .unset, .unset, .unset, .unset] [(.int (lx_k p1 p2 p3 p4)), (.ref ad1)])) _
    refine st3.trans ?_
    show Steps p.tables e below (T3.setTop (mkF m 54 #[.val (.int p1), .val (.int p2), .val (.int p3), .val (.int p4), .val (.int (lx_n p1 p2 p3 p4)), .val (.int (lx_k p1 p2 p3 p4)), .val (.double (lx_op p1 p2 p3 p4)), .second, .val (.double (lx_cl p1 p2 p3 p4)), .second, .val (.ref ad1), .unset, .unset, .unset, .unset, .unset, .unset, .unset, .unset, .unset, .unset, .unset, .unset] [(.double (FP.dadd (lx_op p1 p2 p3 p4) (FP.ddiv (FP.dmul (FP.dsub (lx_cl p1 p2 p3 p4) (lx_op p1 p2 p3 p4)) (FP.i2d ((lx_k p1 p2 p3 p4) - (1 : Int32)))) (FP.i2d (lx_n p1 p2 p3 p4)))))])) _
    refine XS.dstore X3.here hx rfl (hb hby at_54) rfl (l' := #[.val (.int p1), .val (.int p2), .val (.int p3), .val (.int p4), .val (.int (lx_n p1 p2 p3 p4)), .val (.int (lx_k p1 p2 p3 p4)), .val (.double (lx_op p1 p2 p3 p4)), .second, .val (.double (lx_cl p1 p2 p3 p4)), .second, .val (.ref ad1), .val (.double (lx_s p1 p2 p3 p4)), .second, .unset, .unset, .unset, .unset, .unset, .unset, .unset, .unset, .unset, .unset]) rfl ?_
    show Steps p.tables e below (T3.setTop (mkF m 56 #[.val (.int p1), .val (.int p2), .val (.int p3), .val (.int p4), .val (.int (lx_n p1 p2 p3 p4)), .val (.int (lx_k p1 p2 p3 p4)), .val (.double (lx_op p1 p2 p3 p4)), .second, .val (.double (lx_cl p1 p2 p3 p4)), .second, .val (.ref ad1), .val (.double (lx_s p1 p2 p3 p4)), .second, .unset, .unset, .unset, .unset, .unset, .unset, .unset, .unset, .unset, .unset] [])) _
    refine XS.iloadN X3.here hx rfl (hb hby at_56) rfl ?_
    show Steps p.tables e below (T3.setTop (mkF m 57 #[.val (.int p1), .val (.int p2), .val (.int p3), .val (.int p4), .val (.int (lx_n p1 p2 p3 p4)), .val (.int (lx_k p1 p2 p3 p4)), .val (.double (lx_op p1 p2 p3 p4)), .second, .val (.double (lx_cl p1 p2 p3 p4)), .second, .val (.ref ad1), .val (.double (lx_s p1 p2 p3 p4)), .second, .unset, .unset, .unset, .unset, .unset, .unset, .unset, .unset, .unset, .unset] [(.int p2)])) _
    refine XT.i2l X3.here hx rfl (hb hby at_57) rfl ?_
    show Steps p.tables e below (T3.setTop (mkF m 58 #[.val (.int p1), .val (.int p2), .val (.int p3), .val (.int p4), .val (.int (lx_n p1 p2 p3 p4)), .val (.int (lx_k p1 p2 p3 p4)), .val (.double (lx_op p1 p2 p3 p4)), .second, .val (.double (lx_cl p1 p2 p3 p4)), .second, .val (.ref ad1), .val (.double (lx_s p1 p2 p3 p4)), .second, .unset, .unset, .unset, .unset, .unset, .unset, .unset, .unset, .unset, .unset] [(.long (Int32.toInt64 p2))])) _
    refine XS.iload X3.here hx rfl (hb hby at_58) rfl ?_
    show Steps p.tables e below (T3.setTop (mkF m 60 #[.val (.int p1), .val (.int p2), .val (.int p3), .val (.int p4), .val (.int (lx_n p1 p2 p3 p4)), .val (.int (lx_k p1 p2 p3 p4)), .val (.double (lx_op p1 p2 p3 p4)), .second, .val (.double (lx_cl p1 p2 p3 p4)), .second, .val (.ref ad1), .val (.double (lx_s p1 p2 p3 p4)), .second, .unset, .unset, .unset, .unset, .unset, .unset, .unset, .unset, .unset, .unset] [(.int (lx_k p1 p2 p3 p4)), (.long (Int32.toInt64 p2))])) _
    refine XS.iconst X3.here hx rfl (hb hby at_60) ?_
    show Steps p.tables e below (T3.setTop (mkF m 61 #[.val (.int p1), .val (.int p2), .val (.int p3), .val (.int p4), .val (.int (lx_n p1 p2 p3 p4)), .val (.int (lx_k p1 p2 p3 p4)), .val (.double (lx_op p1 p2 p3 p4)), .second, .val (.double (lx_cl p1 p2 p3 p4)), .second, .val (.ref ad1), .val (.double (lx_s p1 p2 p3 p4)), .second, .unset, .unset, .unset, .unset, .unset, .unset, .unset, .unset, .unset, .unset] [(.int (1 : Int32)), (.int (lx_k p1 p2 p3 p4)), (.long (Int32.toInt64 p2))])) _
    refine XS.isub X3.here hx rfl (hb hby at_61) rfl ?_
    show Steps p.tables e below (T3.setTop (mkF m 62 #[.val (.int p1), .val (.int p2), .val (.int p3), .val (.int p4), .val (.int (lx_n p1 p2 p3 p4)), .val (.int (lx_k p1 p2 p3 p4)), .val (.double (lx_op p1 p2 p3 p4)), .second, .val (.double (lx_cl p1 p2 p3 p4)), .second, .val (.ref ad1), .val (.double (lx_s p1 p2 p3 p4)), .second, .unset, .unset, .unset, .unset, .unset, .unset, .unset, .unset, .unset, .unset] [(.int ((lx_k p1 p2 p3 p4) - (1 : Int32))), (.long (Int32.toInt64 p2))])) _
    refine XT.i2l X3.here hx rfl (hb hby at_62) rfl ?_
    show Steps p.tables e below (T3.setTop (mkF m 63 #[.val (.int p1), .val (.int p2), .val (.int p3), .val (.int p4), .val (.int (lx_n p1 p2 p3 p4)), .val (.int (lx_k p1 p2 p3 p4)), .val (.double (lx_op p1 p2 p3 p4)), .second, .val (.double (lx_cl p1 p2 p3 p4)), .second, .val (.ref ad1), .val (.double (lx_s p1 p2 p3 p4)), .second, .unset, .unset, .unset, .unset, .unset, .unset, .unset, .unset, .unset, .unset] [(.long (Int32.toInt64 ((lx_k p1 p2 p3 p4) - (1 : Int32)))), (.long (Int32.toInt64 p2))])) _
    refine XT.lmul X3.here hx rfl (hb hby at_63) rfl ?_
    show Steps p.tables e below (T3.setTop (mkF m 64 #[.val (.int p1), .val (.int p2), .val (.int p3), .val (.int p4), .val (.int (lx_n p1 p2 p3 p4)), .val (.int (lx_k p1 p2 p3 p4)), .val (.double (lx_op p1 p2 p3 p4)), .second, .val (.double (lx_cl p1 p2 p3 p4)), .second, .val (.ref ad1), .val (.double (lx_s p1 p2 p3 p4)), .second, .unset, .unset, .unset, .unset, .unset, .unset, .unset, .unset, .unset, .unset] [(.long ((Int32.toInt64 p2) * (Int32.toInt64 ((lx_k p1 p2 p3 p4) - (1 : Int32)))))])) _
    refine XT.lstore X3.here hx rfl (hb hby at_64) rfl (l' := #[.val (.int p1), .val (.int p2), .val (.int p3), .val (.int p4), .val (.int (lx_n p1 p2 p3 p4)), .val (.int (lx_k p1 p2 p3 p4)), .val (.double (lx_op p1 p2 p3 p4)), .second, .val (.double (lx_cl p1 p2 p3 p4)), .second, .val (.ref ad1), .val (.double (lx_s p1 p2 p3 p4)), .second, .val (.long (lx_p p1 p2 p3 p4)), .second, .unset, .unset, .unset, .unset, .unset, .unset, .unset, .unset]) rfl ?_
    show Steps p.tables e below (T3.setTop (mkF m 66 #[.val (.int p1), .val (.int p2), .val (.int p3), .val (.int p4), .val (.int (lx_n p1 p2 p3 p4)), .val (.int (lx_k p1 p2 p3 p4)), .val (.double (lx_op p1 p2 p3 p4)), .second, .val (.double (lx_cl p1 p2 p3 p4)), .second, .val (.ref ad1), .val (.double (lx_s p1 p2 p3 p4)), .second, .val (.long (lx_p p1 p2 p3 p4)), .second, .unset, .unset, .unset, .unset, .unset, .unset, .unset, .unset] [])) _
    refine XT.lload X3.here hx rfl (hb hby at_66) rfl ?_
    show Steps p.tables e below (T3.setTop (mkF m 68 #[.val (.int p1), .val (.int p2), .val (.int p3), .val (.int p4), .val (.int (lx_n p1 p2 p3 p4)), .val (.int (lx_k p1 p2 p3 p4)), .val (.double (lx_op p1 p2 p3 p4)), .second, .val (.double (lx_cl p1 p2 p3 p4)), .second, .val (.ref ad1), .val (.double (lx_s p1 p2 p3 p4)), .second, .val (.long (lx_p p1 p2 p3 p4)), .second, .unset, .unset, .unset, .unset, .unset, .unset, .unset, .unset] [(.long (lx_p p1 p2 p3 p4))])) _
    refine XS.iload X3.here hx rfl (hb hby at_68) rfl ?_
    show Steps p.tables e below (T3.setTop (mkF m 70 #[.val (.int p1), .val (.int p2), .val (.int p3), .val (.int p4), .val (.int (lx_n p1 p2 p3 p4)), .val (.int (lx_k p1 p2 p3 p4)), .val (.double (lx_op p1 p2 p3 p4)), .second, .val (.double (lx_cl p1 p2 p3 p4)), .second, .val (.ref ad1), .val (.double (lx_s p1 p2 p3 p4)), .second, .val (.long (lx_p p1 p2 p3 p4)), .second, .unset, .unset, .unset, .unset, .unset, .unset, .unset, .unset] [(.int (lx_n p1 p2 p3 p4)), (.long (lx_p p1 p2 p3 p4))])) _
    refine XT.i2l X3.here hx rfl (hb hby at_70) rfl ?_
    show Steps p.tables e below (T3.setTop (mkF m 71 #[.val (.int p1), .val (.int p2), .val (.int p3), .val (.int p4), .val (.int (lx_n p1 p2 p3 p4)), .val (.int (lx_k p1 p2 p3 p4)), .val (.double (lx_op p1 p2 p3 p4)), .second, .val (.double (lx_cl p1 p2 p3 p4)), .second, .val (.ref ad1), .val (.double (lx_s p1 p2 p3 p4)), .second, .val (.long (lx_p p1 p2 p3 p4)), .second, .unset, .unset, .unset, .unset, .unset, .unset, .unset, .unset] [(.long (Int32.toInt64 (lx_n p1 p2 p3 p4))), (.long (lx_p p1 p2 p3 p4))])) _
    refine XT.ldiv X3.here hx rfl (hb hby at_71) rfl (own_nL p1 p2 p3 p4) ?_
    show Steps p.tables e below (T3.setTop (mkF m 72 #[.val (.int p1), .val (.int p2), .val (.int p3), .val (.int p4), .val (.int (lx_n p1 p2 p3 p4)), .val (.int (lx_k p1 p2 p3 p4)), .val (.double (lx_op p1 p2 p3 p4)), .second, .val (.double (lx_cl p1 p2 p3 p4)), .second, .val (.ref ad1), .val (.double (lx_s p1 p2 p3 p4)), .second, .val (.long (lx_p p1 p2 p3 p4)), .second, .unset, .unset, .unset, .unset, .unset, .unset, .unset, .unset] [(.long ((lx_p p1 p2 p3 p4) / (Int32.toInt64 (lx_n p1 p2 p3 p4))))])) _
    refine XT.lstore X3.here hx rfl (hb hby at_72) rfl (l' := #[.val (.int p1), .val (.int p2), .val (.int p3), .val (.int p4), .val (.int (lx_n p1 p2 p3 p4)), .val (.int (lx_k p1 p2 p3 p4)), .val (.double (lx_op p1 p2 p3 p4)), .second, .val (.double (lx_cl p1 p2 p3 p4)), .second, .val (.ref ad1), .val (.double (lx_s p1 p2 p3 p4)), .second, .val (.long (lx_p p1 p2 p3 p4)), .second, .val (.long (lx_q p1 p2 p3 p4)), .second, .unset, .unset, .unset, .unset, .unset, .unset]) rfl ?_
    show Steps p.tables e below (T3.setTop (mkF m 74 #[.val (.int p1), .val (.int p2), .val (.int p3), .val (.int p4), .val (.int (lx_n p1 p2 p3 p4)), .val (.int (lx_k p1 p2 p3 p4)), .val (.double (lx_op p1 p2 p3 p4)), .second, .val (.double (lx_cl p1 p2 p3 p4)), .second, .val (.ref ad1), .val (.double (lx_s p1 p2 p3 p4)), .second, .val (.long (lx_p p1 p2 p3 p4)), .second, .val (.long (lx_q p1 p2 p3 p4)), .second, .unset, .unset, .unset, .unset, .unset, .unset] [])) _
    refine XT.lload X3.here hx rfl (hb hby at_74) rfl ?_
    show Steps p.tables e below (T3.setTop (mkF m 76 #[.val (.int p1), .val (.int p2), .val (.int p3), .val (.int p4), .val (.int (lx_n p1 p2 p3 p4)), .val (.int (lx_k p1 p2 p3 p4)), .val (.double (lx_op p1 p2 p3 p4)), .second, .val (.double (lx_cl p1 p2 p3 p4)), .second, .val (.ref ad1), .val (.double (lx_s p1 p2 p3 p4)), .second, .val (.long (lx_p p1 p2 p3 p4)), .second, .val (.long (lx_q p1 p2 p3 p4)), .second, .unset, .unset, .unset, .unset, .unset, .unset] [(.long (lx_p p1 p2 p3 p4))])) _
    refine XS.iload X3.here hx rfl (hb hby at_76) rfl ?_
    show Steps p.tables e below (T3.setTop (mkF m 78 #[.val (.int p1), .val (.int p2), .val (.int p3), .val (.int p4), .val (.int (lx_n p1 p2 p3 p4)), .val (.int (lx_k p1 p2 p3 p4)), .val (.double (lx_op p1 p2 p3 p4)), .second, .val (.double (lx_cl p1 p2 p3 p4)), .second, .val (.ref ad1), .val (.double (lx_s p1 p2 p3 p4)), .second, .val (.long (lx_p p1 p2 p3 p4)), .second, .val (.long (lx_q p1 p2 p3 p4)), .second, .unset, .unset, .unset, .unset, .unset, .unset] [(.int (lx_n p1 p2 p3 p4)), (.long (lx_p p1 p2 p3 p4))])) _
    refine XT.i2l X3.here hx rfl (hb hby at_78) rfl ?_
    show Steps p.tables e below (T3.setTop (mkF m 79 #[.val (.int p1), .val (.int p2), .val (.int p3), .val (.int p4), .val (.int (lx_n p1 p2 p3 p4)), .val (.int (lx_k p1 p2 p3 p4)), .val (.double (lx_op p1 p2 p3 p4)), .second, .val (.double (lx_cl p1 p2 p3 p4)), .second, .val (.ref ad1), .val (.double (lx_s p1 p2 p3 p4)), .second, .val (.long (lx_p p1 p2 p3 p4)), .second, .val (.long (lx_q p1 p2 p3 p4)), .second, .unset, .unset, .unset, .unset, .unset, .unset] [(.long (Int32.toInt64 (lx_n p1 p2 p3 p4))), (.long (lx_p p1 p2 p3 p4))])) _
    refine XT.lrem X3.here hx rfl (hb hby at_79) rfl (own_nL p1 p2 p3 p4) ?_
    show Steps p.tables e below (T3.setTop (mkF m 80 #[.val (.int p1), .val (.int p2), .val (.int p3), .val (.int p4), .val (.int (lx_n p1 p2 p3 p4)), .val (.int (lx_k p1 p2 p3 p4)), .val (.double (lx_op p1 p2 p3 p4)), .second, .val (.double (lx_cl p1 p2 p3 p4)), .second, .val (.ref ad1), .val (.double (lx_s p1 p2 p3 p4)), .second, .val (.long (lx_p p1 p2 p3 p4)), .second, .val (.long (lx_q p1 p2 p3 p4)), .second, .unset, .unset, .unset, .unset, .unset, .unset] [(.long ((lx_p p1 p2 p3 p4) - (lx_p p1 p2 p3 p4) / (Int32.toInt64 (lx_n p1 p2 p3 p4)) * (Int32.toInt64 (lx_n p1 p2 p3 p4))))])) _
    refine XT.lstore X3.here hx rfl (hb hby at_80) rfl (l' := #[.val (.int p1), .val (.int p2), .val (.int p3), .val (.int p4), .val (.int (lx_n p1 p2 p3 p4)), .val (.int (lx_k p1 p2 p3 p4)), .val (.double (lx_op p1 p2 p3 p4)), .second, .val (.double (lx_cl p1 p2 p3 p4)), .second, .val (.ref ad1), .val (.double (lx_s p1 p2 p3 p4)), .second, .val (.long (lx_p p1 p2 p3 p4)), .second, .val (.long (lx_q p1 p2 p3 p4)), .second, .val (.long (lx_r p1 p2 p3 p4)), .second, .unset, .unset, .unset, .unset]) rfl ?_
    show Steps p.tables e below (T3.setTop (mkF m 82 #[.val (.int p1), .val (.int p2), .val (.int p3), .val (.int p4), .val (.int (lx_n p1 p2 p3 p4)), .val (.int (lx_k p1 p2 p3 p4)), .val (.double (lx_op p1 p2 p3 p4)), .second, .val (.double (lx_cl p1 p2 p3 p4)), .second, .val (.ref ad1), .val (.double (lx_s p1 p2 p3 p4)), .second, .val (.long (lx_p p1 p2 p3 p4)), .second, .val (.long (lx_q p1 p2 p3 p4)), .second, .val (.long (lx_r p1 p2 p3 p4)), .second, .unset, .unset, .unset, .unset] [])) _
    refine XT.lload X3.here hx rfl (hb hby at_82) rfl ?_
    show Steps p.tables e below (T3.setTop (mkF m 84 #[.val (.int p1), .val (.int p2), .val (.int p3), .val (.int p4), .val (.int (lx_n p1 p2 p3 p4)), .val (.int (lx_k p1 p2 p3 p4)), .val (.double (lx_op p1 p2 p3 p4)), .second, .val (.double (lx_cl p1 p2 p3 p4)), .second, .val (.ref ad1), .val (.double (lx_s p1 p2 p3 p4)), .second, .val (.long (lx_p p1 p2 p3 p4)), .second, .val (.long (lx_q p1 p2 p3 p4)), .second, .val (.long (lx_r p1 p2 p3 p4)), .second, .unset, .unset, .unset, .unset] [(.long (lx_r p1 p2 p3 p4))])) _
    refine XT.lconst X3.here hx rfl (hb hby at_84) ?_
    show Steps p.tables e below (T3.setTop (mkF m 85 #[.val (.int p1), .val (.int p2), .val (.int p3), .val (.int p4), .val (.int (lx_n p1 p2 p3 p4)), .val (.int (lx_k p1 p2 p3 p4)), .val (.double (lx_op p1 p2 p3 p4)), .second, .val (.double (lx_cl p1 p2 p3 p4)), .second, .val (.ref ad1), .val (.double (lx_s p1 p2 p3 p4)), .second, .val (.long (lx_p p1 p2 p3 p4)), .second, .val (.long (lx_q p1 p2 p3 p4)), .second, .val (.long (lx_r p1 p2 p3 p4)), .second, .unset, .unset, .unset, .unset] [(.long (0 : Int64)), (.long (lx_r p1 p2 p3 p4))])) _
    refine XT.lcmp X3.here hx rfl (hb hby at_85) rfl ?_
    show Steps p.tables e below (T3.setTop (mkF m 86 #[.val (.int p1), .val (.int p2), .val (.int p3), .val (.int p4), .val (.int (lx_n p1 p2 p3 p4)), .val (.int (lx_k p1 p2 p3 p4)), .val (.double (lx_op p1 p2 p3 p4)), .second, .val (.double (lx_cl p1 p2 p3 p4)), .second, .val (.ref ad1), .val (.double (lx_s p1 p2 p3 p4)), .second, .val (.long (lx_p p1 p2 p3 p4)), .second, .val (.long (lx_q p1 p2 p3 p4)), .second, .val (.long (lx_r p1 p2 p3 p4)), .second, .unset, .unset, .unset, .unset] [(.int (XT.cmpL (lx_r p1 p2 p3 p4) (0 : Int64)))])) _
    refine XS.ifYes X3.here hx rfl (pc0 := 86) (pc' := 107) rfl (hb hby at_86) rfl hr0 (by decide) (by decide) ?_
    show Steps p.tables e below (T3.setTop (mkF m 107 #[.val (.int p1), .val (.int p2), .val (.int p3), .val (.int p4), .val (.int (lx_n p1 p2 p3 p4)), .val (.int (lx_k p1 p2 p3 p4)), .val (.double (lx_op p1 p2 p3 p4)), .second, .val (.double (lx_cl p1 p2 p3 p4)), .second, .val (.ref ad1), .val (.double (lx_s p1 p2 p3 p4)), .second, .val (.long (lx_p p1 p2 p3 p4)), .second, .val (.long (lx_q p1 p2 p3 p4)), .second, .val (.long (lx_r p1 p2 p3 p4)), .second, .unset, .unset, .unset, .unset] [])) _
    refine XT.lload X3.here hx rfl (hb hby at_107) rfl ?_
    show Steps p.tables e below (T3.setTop (mkF m 109 #[.val (.int p1), .val (.int p2), .val (.int p3), .val (.int p4), .val (.int (lx_n p1 p2 p3 p4)), .val (.int (lx_k p1 p2 p3 p4)), .val (.double (lx_op p1 p2 p3 p4)), .second, .val (.double (lx_cl p1 p2 p3 p4)), .second, .val (.ref ad1), .val (.double (lx_s p1 p2 p3 p4)), .second, .val (.long (lx_p p1 p2 p3 p4)), .second, .val (.long (lx_q p1 p2 p3 p4)), .second, .val (.long (lx_r p1 p2 p3 p4)), .second, .unset, .unset, .unset, .unset] [(.long (lx_p p1 p2 p3 p4))])) _
    refine XT.lconst X3.here hx rfl (hb hby at_109) ?_
    show Steps p.tables e below (T3.setTop (mkF m 110 #[.val (.int p1), .val (.int p2), .val (.int p3), .val (.int p4), .val (.int (lx_n p1 p2 p3 p4)), .val (.int (lx_k p1 p2 p3 p4)), .val (.double (lx_op p1 p2 p3 p4)), .second, .val (.double (lx_cl p1 p2 p3 p4)), .second, .val (.ref ad1), .val (.double (lx_s p1 p2 p3 p4)), .second, .val (.long (lx_p p1 p2 p3 p4)), .second, .val (.long (lx_q p1 p2 p3 p4)), .second, .val (.long (lx_r p1 p2 p3 p4)), .second, .unset, .unset, .unset, .unset] [(.long (0 : Int64)), (.long (lx_p p1 p2 p3 p4))])) _
    refine XT.lcmp X3.here hx rfl (hb hby at_110) rfl ?_
    show Steps p.tables e below (T3.setTop (mkF m 111 #[.val (.int p1), .val (.int p2), .val (.int p3), .val (.int p4), .val (.int (lx_n p1 p2 p3 p4)), .val (.int (lx_k p1 p2 p3 p4)), .val (.double (lx_op p1 p2 p3 p4)), .second, .val (.double (lx_cl p1 p2 p3 p4)), .second, .val (.ref ad1), .val (.double (lx_s p1 p2 p3 p4)), .second, .val (.long (lx_p p1 p2 p3 p4)), .second, .val (.long (lx_q p1 p2 p3 p4)), .second, .val (.long (lx_r p1 p2 p3 p4)), .second, .unset, .unset, .unset, .unset] [(.int (XT.cmpL (lx_p p1 p2 p3 p4) (0 : Int64)))])) _
    have sg4 : ∀ t, Steps p.tables e below (T3.setTop (mkF m 120 #[.val (.int p1), .val (.int p2), .val (.int p3), .val (.int p4), .val (.int (lx_n p1 p2 p3 p4)), .val (.int (lx_k p1 p2 p3 p4)), .val (.double (lx_op p1 p2 p3 p4)), .second, .val (.double (lx_cl p1 p2 p3 p4)), .second, .val (.ref ad1), .val (.double (lx_s p1 p2 p3 p4)), .second, .val (.long (lx_p p1 p2 p3 p4)), .second, .val (.long (lx_q2 p1 p2 p3 p4)), .second, .val (.long (lx_r p1 p2 p3 p4)), .second, .unset, .unset, .unset, .unset] [])) t → Steps p.tables e below (T3.setTop (mkF m 111 #[.val (.int p1), .val (.int p2), .val (.int p3), .val (.int p4), .val (.int (lx_n p1 p2 p3 p4)), .val (.int (lx_k p1 p2 p3 p4)), .val (.double (lx_op p1 p2 p3 p4)), .second, .val (.double (lx_cl p1 p2 p3 p4)), .second, .val (.ref ad1), .val (.double (lx_s p1 p2 p3 p4)), .second, .val (.long (lx_p p1 p2 p3 p4)), .second, .val (.long (lx_q p1 p2 p3 p4)), .second, .val (.long (lx_r p1 p2 p3 p4)), .second, .unset, .unset, .unset, .unset] [(.int (XT.cmpL (lx_p p1 p2 p3 p4) (0 : Int64)))])) t := by
      intro t k
      by_cases c5 : (ifCond.holds .ge (XT.cmpL (lx_p p1 p2 p3 p4) (0 : Int64))) = true
      · refine XS.ifYes X3.here hx rfl (pc0 := 111) (pc' := 120) rfl (hb hby at_111) rfl c5 (by decide) (by decide) ?_
        show Steps p.tables e below (T3.setTop (mkF m 120 #[.val (.int p1), .val (.int p2), .val (.int p3), .val (.int p4), .val (.int (lx_n p1 p2 p3 p4)), .val (.int (lx_k p1 p2 p3 p4)), .val (.double (lx_op p1 p2 p3 p4)), .second, .val (.double (lx_cl p1 p2 p3 p4)), .second, .val (.ref ad1), .val (.double (lx_s p1 p2 p3 p4)), .second, .val (.long (lx_p p1 p2 p3 p4)), .second, .val (.long (lx_q p1 p2 p3 p4)), .second, .val (.long (lx_r p1 p2 p3 p4)), .second, .unset, .unset, .unset, .unset] [])) t
        have q : (lx_q2 p1 p2 p3 p4) = (lx_q p1 p2 p3 p4) := by simp only [lx_q2, c5, if_true, if_false, Bool.false_eq_true]; try rfl
        rw [q] at k
        clear q
        exact k
      · refine XS.ifNo X3.here hx rfl (hb hby at_111) rfl (Bool.eq_false_iff.mpr c5) ?_
        show Steps p.tables e below (T3.setTop (mkF m 114 #[.val (.int p1), .val (.int p2), .val (.int p3), .val (.int p4), .val (.int (lx_n p1 p2 p3 p4)), .val (.int (lx_k p1 p2 p3 p4)), .val (.double (lx_op p1 p2 p3 p4)), .second, .val (.double (lx_cl p1 p2 p3 p4)), .second, .val (.ref ad1), .val (.double (lx_s p1 p2 p3 p4)), .second, .val (.long (lx_p p1 p2 p3 p4)), .second, .val (.long (lx_q p1 p2 p3 p4)), .second, .val (.long (lx_r p1 p2 p3 p4)), .second, .unset, .unset, .unset, .unset] [])) t
        refine XT.lload X3.here hx rfl (hb hby at_114) rfl ?_
        show Steps p.tables e below (T3.setTop (mkF m 116 #[.val (.int p1), .val (.int p2), .val (.int p3), .val (.int p4), .val (.int (lx_n p1 p2 p3 p4)), .val (.int (lx_k p1 p2 p3 p4)), .val (.double (lx_op p1 p2 p3 p4)), .second, .val (.double (lx_cl p1 p2 p3 p4)), .second, .val (.ref ad1), .val (.double (lx_s p1 p2 p3 p4)), .second, .val (.long (lx_p p1 p2 p3 p4)), .second, .val (.long (lx_q p1 p2 p3 p4)), .second, .val (.long (lx_r p1 p2 p3 p4)), .second, .unset, .unset, .unset, .unset] [(.long (lx_q p1 p2 p3 p4))])) t
        refine XT.lconst X3.here hx rfl (hb hby at_116) ?_
        show Steps p.tables e below (T3.setTop (mkF m 117 #[.val (.int p1), .val (.int p2), .val (.int p3), .val (.int p4), .val (.int (lx_n p1 p2 p3 p4)), .val (.int (lx_k p1 p2 p3 p4)), .val (.double (lx_op p1 p2 p3 p4)), .second, .val (.double (lx_cl p1 p2 p3 p4)), .second, .val (.ref ad1), .val (.double (lx_s p1 p2 p3 p4)), .second, .val (.long (lx_p p1 p2 p3 p4)), .second, .val (.long (lx_q p1 p2 p3 p4)), .second, .val (.long (lx_r p1 p2 p3 p4)), .second, .unset, .unset, .unset, .unset] [(.long (1 : Int64)), (.long (lx_q p1 p2 p3 p4))])) t
        refine XT.lsub X3.here hx rfl (hb hby at_117) rfl ?_
        show Steps p.tables e below (T3.setTop (mkF m 118 #[.val (.int p1), .val (.int p2), .val (.int p3), .val (.int p4), .val (.int (lx_n p1 p2 p3 p4)), .val (.int (lx_k p1 p2 p3 p4)), .val (.double (lx_op p1 p2 p3 p4)), .second, .val (.double (lx_cl p1 p2 p3 p4)), .second, .val (.ref ad1), .val (.double (lx_s p1 p2 p3 p4)), .second, .val (.long (lx_p p1 p2 p3 p4)), .second, .val (.long (lx_q p1 p2 p3 p4)), .second, .val (.long (lx_r p1 p2 p3 p4)), .second, .unset, .unset, .unset, .unset] [(.long ((lx_q p1 p2 p3 p4) - (1 : Int64)))])) t
        refine XT.lstore X3.here hx rfl (hb hby at_118) rfl (l' := #[.val (.int p1), .val (.int p2), .val (.int p3), .val (.int p4), .val (.int (lx_n p1 p2 p3 p4)), .val (.int (lx_k p1 p2 p3 p4)), .val (.double (lx_op p1 p2 p3 p4)), .second, .val (.double (lx_cl p1 p2 p3 p4)), .second, .val (.ref ad1), .val (.double (lx_s p1 p2 p3 p4)), .second, .val (.long (lx_p p1 p2 p3 p4)), .second, .val (.long ((lx_q p1 p2 p3 p4) - (1 : Int64))), .second, .val (.long (lx_r p1 p2 p3 p4)), .second, .unset, .unset, .unset, .unset]) rfl ?_
        show Steps p.tables e below (T3.setTop (mkF m 120 #[.val (.int p1), .val (.int p2), .val (.int p3), .val (.int p4), .val (.int (lx_n p1 p2 p3 p4)), .val (.int (lx_k p1 p2 p3 p4)), .val (.double (lx_op p1 p2 p3 p4)), .second, .val (.double (lx_cl p1 p2 p3 p4)), .second, .val (.ref ad1), .val (.double (lx_s p1 p2 p3 p4)), .second, .val (.long (lx_p p1 p2 p3 p4)), .second, .val (.long ((lx_q p1 p2 p3 p4) - (1 : Int64))), .second, .val (.long (lx_r p1 p2 p3 p4)), .second, .unset, .unset, .unset, .unset] [])) t
        have q : (lx_q2 p1 p2 p3 p4) = ((lx_q p1 p2 p3 p4) - (1 : Int64)) := by simp only [lx_q2, c5, if_true, if_false, Bool.false_eq_true]; try rfl
        rw [q] at k
        clear q
        exact k
    refine sg4 _ ?_
    show Steps p.tables e below (T3.setTop (mkF m 120 #[.val (.int p1), .val (.int p2), .val (.int p3), .val (.int p4), .val (.int (lx_n p1 p2 p3 p4)), .val (.int (lx_k p1 p2 p3 p4)), .val (.double (lx_op p1 p2 p3 p4)), .second, .val (.double (lx_cl p1 p2 p3 p4)), .second, .val (.ref ad1), .val (.double (lx_s p1 p2 p3 p4)), .second, .val (.long (lx_p p1 p2 p3 p4)), .second, .val (.long (lx_q2 p1 p2 p3 p4)), .second, .val (.long (lx_r p1 p2 p3 p4)), .second, .unset, .unset, .unset, .unset] [])) _
    refine XS.iloadN X3.here hx rfl (hb hby at_120) rfl ?_
    show Steps p.tables e below (T3.setTop (mkF m 121 #[.val (.int p1), .val (.int p2), .val (.int p3), .val (.int p4), .val (.int (lx_n p1 p2 p3 p4)), .val (.int (lx_k p1 p2 p3 p4)), .val (.double (lx_op p1 p2 p3 p4)), .second, .val (.double (lx_cl p1 p2 p3 p4)), .second, .val (.ref ad1), .val (.double (lx_s p1 p2 p3 p4)), .second, .val (.long (lx_p p1 p2 p3 p4)), .second, .val (.long (lx_q2 p1 p2 p3 p4)), .second, .val (.long (lx_r p1 p2 p3 p4)), .second, .unset, .unset, .unset, .unset] [(.int p1)])) _
    refine XT.i2l X3.here hx rfl (hb hby at_121) rfl ?_
    show Steps p.tables e below (T3.setTop (mkF m 122 #[.val (.int p1), .val (.int p2), .val (.int p3), .val (.int p4), .val (.int (lx_n p1 p2 p3 p4)), .val (.int (lx_k p1 p2 p3 p4)), .val (.double (lx_op p1 p2 p3 p4)), .second, .val (.double (lx_cl p1 p2 p3 p4)), .second, .val (.ref ad1), .val (.double (lx_s p1 p2 p3 p4)), .second, .val (.long (lx_p p1 p2 p3 p4)), .second, .val (.long (lx_q2 p1 p2 p3 p4)), .second, .val (.long (lx_r p1 p2 p3 p4)), .second, .unset, .unset, .unset, .unset] [(.long (Int32.toInt64 p1))])) _
    refine XT.lload X3.here hx rfl (hb hby at_122) rfl ?_
    show Steps p.tables e below (T3.setTop (mkF m 124 #[.val (.int p1), .val (.int p2), .val (.int p3), .val (.int p4), .val (.int (lx_n p1 p2 p3 p4)), .val (.int (lx_k p1 p2 p3 p4)), .val (.double (lx_op p1 p2 p3 p4)), .second, .val (.double (lx_cl p1 p2 p3 p4)), .second, .val (.ref ad1), .val (.double (lx_s p1 p2 p3 p4)), .second, .val (.long (lx_p p1 p2 p3 p4)), .second, .val (.long (lx_q2 p1 p2 p3 p4)), .second, .val (.long (lx_r p1 p2 p3 p4)), .second, .unset, .unset, .unset, .unset] [(.long (lx_q2 p1 p2 p3 p4)), (.long (Int32.toInt64 p1))])) _
    refine XT.ladd X3.here hx rfl (hb hby at_124) rfl ?_
    show Steps p.tables e below (T3.setTop (mkF m 125 #[.val (.int p1), .val (.int p2), .val (.int p3), .val (.int p4), .val (.int (lx_n p1 p2 p3 p4)), .val (.int (lx_k p1 p2 p3 p4)), .val (.double (lx_op p1 p2 p3 p4)), .second, .val (.double (lx_cl p1 p2 p3 p4)), .second, .val (.ref ad1), .val (.double (lx_s p1 p2 p3 p4)), .second, .val (.long (lx_p p1 p2 p3 p4)), .second, .val (.long (lx_q2 p1 p2 p3 p4)), .second, .val (.long (lx_r p1 p2 p3 p4)), .second, .unset, .unset, .unset, .unset] [(.long ((Int32.toInt64 p1) + (lx_q2 p1 p2 p3 p4)))])) _
    refine XS.l2dS X3.here hx rfl (hb hby at_125) rfl rfl ?_
    show Steps p.tables e below (T3.setTop (mkF m 126 #[.val (.int p1), .val (.int p2), .val (.int p3), .val (.int p4), .val (.int (lx_n p1 p2 p3 p4)), .val (.int (lx_k p1 p2 p3 p4)), .val (.double (lx_op p1 p2 p3 p4)), .second, .val (.double (lx_cl p1 p2 p3 p4)), .second, .val (.ref ad1), .val (.double (lx_s p1 p2 p3 p4)), .second, .val (.long (lx_p p1 p2 p3 p4)), .second, .val (.long (lx_q2 p1 p2 p3 p4)), .second, .val (.long (lx_r p1 p2 p3 p4)), .second, .unset, .unset, .unset, .unset] [(.double (FP.l2d ((Int32.toInt64 p1) + (lx_q2 p1 p2 p3 p4))))])) _
    refine XS.dstore X3.here hx rfl (hb hby at_126) rfl (l' := #[.val (.int p1), .val (.int p2), .val (.int p3), .val (.int p4), .val (.int (lx_n p1 p2 p3 p4)), .val (.int (lx_k p1 p2 p3 p4)), .val (.double (lx_op p1 p2 p3 p4)), .second, .val (.double (lx_cl p1 p2 p3 p4)), .second, .val (.ref ad1), .val (.double (lx_s p1 p2 p3 p4)), .second, .val (.long (lx_p p1 p2 p3 p4)), .second, .val (.long (lx_q2 p1 p2 p3 p4)), .second, .val (.long (lx_r p1 p2 p3 p4)), .second, .val (.double (lx_lo p1 p2 p3 p4)), .second, .unset, .unset]) rfl ?_
    show Steps p.tables e below (T3.setTop (mkF m 128 #[.val (.int p1), .val (.int p2), .val (.int p3), .val (.int p4), .val (.int (lx_n p1 p2 p3 p4)), .val (.int (lx_k p1 p2 p3 p4)), .val (.double (lx_op p1 p2 p3 p4)), .second, .val (.double (lx_cl p1 p2 p3 p4)), .second, .val (.ref ad1), .val (.double (lx_s p1 p2 p3 p4)), .second, .val (.long (lx_p p1 p2 p3 p4)), .second, .val (.long (lx_q2 p1 p2 p3 p4)), .second, .val (.long (lx_r p1 p2 p3 p4)), .second, .val (.double (lx_lo p1 p2 p3 p4)), .second, .unset, .unset] [])) _
    refine XS.iloadN X3.here hx rfl (hb hby at_128) rfl ?_
    show Steps p.tables e below (T3.setTop (mkF m 129 #[.val (.int p1), .val (.int p2), .val (.int p3), .val (.int p4), .val (.int (lx_n p1 p2 p3 p4)), .val (.int (lx_k p1 p2 p3 p4)), .val (.double (lx_op p1 p2 p3 p4)), .second, .val (.double (lx_cl p1 p2 p3 p4)), .second, .val (.ref ad1), .val (.double (lx_s p1 p2 p3 p4)), .second, .val (.long (lx_p p1 p2 p3 p4)), .second, .val (.long (lx_q2 p1 p2 p3 p4)), .second, .val (.long (lx_r p1 p2 p3 p4)), .second, .val (.double (lx_lo p1 p2 p3 p4)), .second, .unset, .unset] [(.int p1)])) _
    refine XT.i2l X3.here hx rfl (hb hby at_129) rfl ?_
    show Steps p.tables e below (T3.setTop (mkF m 130 #[.val (.int p1), .val (.int p2), .val (.int p3), .val (.int p4), .val (.int (lx_n p1 p2 p3 p4)), .val (.int (lx_k p1 p2 p3 p4)), .val (.double (lx_op p1 p2 p3 p4)), .second, .val (.double (lx_cl p1 p2 p3 p4)), .second, .val (.ref ad1), .val (.double (lx_s p1 p2 p3 p4)), .second, .val (.long (lx_p p1 p2 p3 p4)), .second, .val (.long (lx_q2 p1 p2 p3 p4)), .second, .val (.long (lx_r p1 p2 p3 p4)), .second, .val (.double (lx_lo p1 p2 p3 p4)), .second, .unset, .unset] [(.long (Int32.toInt64 p1))])) _
    refine XT.lload X3.here hx rfl (hb hby at_130) rfl ?_
    show Steps p.tables e below (T3.setTop (mkF m 132 #[.val (.int p1), .val (.int p2), .val (.int p3), .val (.int p4), .val (.int (lx_n p1 p2 p3 p4)), .val (.int (lx_k p1 p2 p3 p4)), .val (.double (lx_op p1 p2 p3 p4)), .second, .val (.double (lx_cl p1 p2 p3 p4)), .second, .val (.ref ad1), .val (.double (lx_s p1 p2 p3 p4)), .second, .val (.long (lx_p p1 p2 p3 p4)), .second, .val (.long (lx_q2 p1 p2 p3 p4)), .second, .val (.long (lx_r p1 p2 p3 p4)), .second, .val (.double (lx_lo p1 p2 p3 p4)), .second, .unset, .unset] [(.long (lx_q2 p1 p2 p3 p4)), (.long (Int32.toInt64 p1))])) _
    refine XT.ladd X3.here hx rfl (hb hby at_132) rfl ?_
    show Steps p.tables e below (T3.setTop (mkF m 133 #[.val (.int p1), .val (.int p2), .val (.int p3), .val (.int p4), .val (.int (lx_n p1 p2 p3 p4)), .val (.int (lx_k p1 p2 p3 p4)), .val (.double (lx_op p1 p2 p3 p4)), .second, .val (.double (lx_cl p1 p2 p3 p4)), .second, .val (.ref ad1), .val (.double (lx_s p1 p2 p3 p4)), .second, .val (.long (lx_p p1 p2 p3 p4)), .second, .val (.long (lx_q2 p1 p2 p3 p4)), .second, .val (.long (lx_r p1 p2 p3 p4)), .second, .val (.double (lx_lo p1 p2 p3 p4)), .second, .unset, .unset] [(.long ((Int32.toInt64 p1) + (lx_q2 p1 p2 p3 p4)))])) _
    refine XT.lconst X3.here hx rfl (hb hby at_133) ?_
    show Steps p.tables e below (T3.setTop (mkF m 134 #[.val (.int p1), .val (.int p2), .val (.int p3), .val (.int p4), .val (.int (lx_n p1 p2 p3 p4)), .val (.int (lx_k p1 p2 p3 p4)), .val (.double (lx_op p1 p2 p3 p4)), .second, .val (.double (lx_cl p1 p2 p3 p4)), .second, .val (.ref ad1), .val (.double (lx_s p1 p2 p3 p4)), .second, .val (.long (lx_p p1 p2 p3 p4)), .second, .val (.long (lx_q2 p1 p2 p3 p4)), .second, .val (.long (lx_r p1 p2 p3 p4)), .second, .val (.double (lx_lo p1 p2 p3 p4)), .second, .unset, .unset] [(.long (1 : Int64)), (.long ((Int32.toInt64 p1) + (lx_q2 p1 p2 p3 p4)))])) _
    refine XT.ladd X3.here hx rfl (hb hby at_134) rfl ?_
    show Steps p.tables e below (T3.setTop (mkF m 135 #[.val (.int p1), .val (.int p2), .val (.int p3), .val (.int p4), .val (.int (lx_n p1 p2 p3 p4)), .val (.int (lx_k p1 p2 p3 p4)), .val (.double (lx_op p1 p2 p3 p4)), .second, .val (.double (lx_cl p1 p2 p3 p4)), .second, .val (.ref ad1), .val (.double (lx_s p1 p2 p3 p4)), .second, .val (.long (lx_p p1 p2 p3 p4)), .second, .val (.long (lx_q2 p1 p2 p3 p4)), .second, .val (.long (lx_r p1 p2 p3 p4)), .second, .val (.double (lx_lo p1 p2 p3 p4)), .second, .unset, .unset] [(.long (((Int32.toInt64 p1) + (lx_q2 p1 p2 p3 p4)) + (1 : Int64)))])) _
    refine XS.l2dS X3.here hx rfl (hb hby at_135) rfl rfl ?_
    show Steps p.tables e below (T3.setTop (mkF m 136 #[.val (.int p1), .val (.int p2), .val (.int p3), .val (.int p4), .val (.int (lx_n p1 p2 p3 p4)), .val (.int (lx_k p1 p2 p3 p4)), .val (.double (lx_op p1 p2 p3 p4)), .second, .val (.double (lx_cl p1 p2 p3 p4)), .second, .val (.ref ad1), .val (.double (lx_s p1 p2 p3 p4)), .second, .val (.long (lx_p p1 p2 p3 p4)), .second, .val (.long (lx_q2 p1 p2 p3 p4)), .second, .val (.long (lx_r p1 p2 p3 p4)), .second, .val (.double (lx_lo p1 p2 p3 p4)), .second, .unset, .unset] [(.double (FP.l2d (((Int32.toInt64 p1) + (lx_q2 p1 p2 p3 p4)) + (1 : Int64))))])) _
    refine XS.dstore X3.here hx rfl (hb hby at_136) rfl (l' := #[.val (.int p1), .val (.int p2), .val (.int p3), .val (.int p4), .val (.int (lx_n p1 p2 p3 p4)), .val (.int (lx_k p1 p2 p3 p4)), .val (.double (lx_op p1 p2 p3 p4)), .second, .val (.double (lx_cl p1 p2 p3 p4)), .second, .val (.ref ad1), .val (.double (lx_s p1 p2 p3 p4)), .second, .val (.long (lx_p p1 p2 p3 p4)), .second, .val (.long (lx_q2 p1 p2 p3 p4)), .second, .val (.long (lx_r p1 p2 p3 p4)), .second, .val (.double (lx_lo p1 p2 p3 p4)), .second, .val (.double (lx_hi p1 p2 p3 p4)), .second]) rfl ?_
    show Steps p.tables e below (T3.setTop (mkF m 138 #[.val (.int p1), .val (.int p2), .val (.int p3), .val (.int p4), .val (.int (lx_n p1 p2 p3 p4)), .val (.int (lx_k p1 p2 p3 p4)), .val (.double (lx_op p1 p2 p3 p4)), .second, .val (.double (lx_cl p1 p2 p3 p4)), .second, .val (.ref ad1), .val (.double (lx_s p1 p2 p3 p4)), .second, .val (.long (lx_p p1 p2 p3 p4)), .second, .val (.long (lx_q2 p1 p2 p3 p4)), .second, .val (.long (lx_r p1 p2 p3 p4)), .second, .val (.double (lx_lo p1 p2 p3 p4)), .second, .val (.double (lx_hi p1 p2 p3 p4)), .second] [])) _
    refine XS.dload X3.here hx rfl (hb hby at_138) rfl ?_
    show Steps p.tables e below (T3.setTop (mkF m 140 #[.val (.int p1), .val (.int p2), .val (.int p3), .val (.int p4), .val (.int (lx_n p1 p2 p3 p4)), .val (.int (lx_k p1 p2 p3 p4)), .val (.double (lx_op p1 p2 p3 p4)), .second, .val (.double (lx_cl p1 p2 p3 p4)), .second, .val (.ref ad1), .val (.double (lx_s p1 p2 p3 p4)), .second, .val (.long (lx_p p1 p2 p3 p4)), .second, .val (.long (lx_q2 p1 p2 p3 p4)), .second, .val (.long (lx_r p1 p2 p3 p4)), .second, .val (.double (lx_lo p1 p2 p3 p4)), .second, .val (.double (lx_hi p1 p2 p3 p4)), .second] [(.double (lx_lo p1 p2 p3 p4))])) _
    refine XS.dload X3.here hx rfl (hb hby at_140) rfl ?_
    show Steps p.tables e below (T3.setTop (mkF m 142 #[.val (.int p1), .val (.int p2), .val (.int p3), .val (.int p4), .val (.int (lx_n p1 p2 p3 p4)), .val (.int (lx_k p1 p2 p3 p4)), .val (.double (lx_op p1 p2 p3 p4)), .second, .val (.double (lx_cl p1 p2 p3 p4)), .second, .val (.ref ad1), .val (.double (lx_s p1 p2 p3 p4)), .second, .val (.long (lx_p p1 p2 p3 p4)), .second, .val (.long (lx_q2 p1 p2 p3 p4)), .second, .val (.long (lx_r p1 p2 p3 p4)), .second, .val (.double (lx_lo p1 p2 p3 p4)), .second, .val (.double (lx_hi p1 p2 p3 p4)), .second] [(.double (lx_s p1 p2 p3 p4)), (.double (lx_lo p1 p2 p3 p4))])) _
    refine XS.dcmpS X3.here hx rfl (hb hby at_142) rfl rfl ?_
    show Steps p.tables e below (T3.setTop (mkF m 143 #[.val (.int p1), .val (.int p2), .val (.int p3), .val (.int p4), .val (.int (lx_n p1 p2 p3 p4)), .val (.int (lx_k p1 p2 p3 p4)), .val (.double (lx_op p1 p2 p3 p4)), .second, .val (.double (lx_cl p1 p2 p3 p4)), .second, .val (.ref ad1), .val (.double (lx_s p1 p2 p3 p4)), .second, .val (.long (lx_p p1 p2 p3 p4)), .second, .val (.long (lx_q2 p1 p2 p3 p4)), .second, .val (.long (lx_r p1 p2 p3 p4)), .second, .val (.double (lx_lo p1 p2 p3 p4)), .second, .val (.double (lx_hi p1 p2 p3 p4)), .second] [(.int (cmpValue (FP.dcmp (lx_lo p1 p2 p3 p4) (lx_s p1 p2 p3 p4)) .g))])) _
    refine XS.ifNo X3.here hx rfl (hb hby at_143) rfl (own_e1 p1 p2 p3 p4 hr0) ?_
    show Steps p.tables e below (T3.setTop (mkF m 146 #[.val (.int p1), .val (.int p2), .val (.int p3), .val (.int p4), .val (.int (lx_n p1 p2 p3 p4)), .val (.int (lx_k p1 p2 p3 p4)), .val (.double (lx_op p1 p2 p3 p4)), .second, .val (.double (lx_cl p1 p2 p3 p4)), .second, .val (.ref ad1), .val (.double (lx_s p1 p2 p3 p4)), .second, .val (.long (lx_p p1 p2 p3 p4)), .second, .val (.long (lx_q2 p1 p2 p3 p4)), .second, .val (.long (lx_r p1 p2 p3 p4)), .second, .val (.double (lx_lo p1 p2 p3 p4)), .second, .val (.double (lx_hi p1 p2 p3 p4)), .second] [])) _
    refine XS.dload X3.here hx rfl (hb hby at_146) rfl ?_
    show Steps p.tables e below (T3.setTop (mkF m 148 #[.val (.int p1), .val (.int p2), .val (.int p3), .val (.int p4), .val (.int (lx_n p1 p2 p3 p4)), .val (.int (lx_k p1 p2 p3 p4)), .val (.double (lx_op p1 p2 p3 p4)), .second, .val (.double (lx_cl p1 p2 p3 p4)), .second, .val (.ref ad1), .val (.double (lx_s p1 p2 p3 p4)), .second, .val (.long (lx_p p1 p2 p3 p4)), .second, .val (.long (lx_q2 p1 p2 p3 p4)), .second, .val (.long (lx_r p1 p2 p3 p4)), .second, .val (.double (lx_lo p1 p2 p3 p4)), .second, .val (.double (lx_hi p1 p2 p3 p4)), .second] [(.double (lx_s p1 p2 p3 p4))])) _
    refine XS.dload X3.here hx rfl (hb hby at_148) rfl ?_
    show Steps p.tables e below (T3.setTop (mkF m 150 #[.val (.int p1), .val (.int p2), .val (.int p3), .val (.int p4), .val (.int (lx_n p1 p2 p3 p4)), .val (.int (lx_k p1 p2 p3 p4)), .val (.double (lx_op p1 p2 p3 p4)), .second, .val (.double (lx_cl p1 p2 p3 p4)), .second, .val (.ref ad1), .val (.double (lx_s p1 p2 p3 p4)), .second, .val (.long (lx_p p1 p2 p3 p4)), .second, .val (.long (lx_q2 p1 p2 p3 p4)), .second, .val (.long (lx_r p1 p2 p3 p4)), .second, .val (.double (lx_lo p1 p2 p3 p4)), .second, .val (.double (lx_hi p1 p2 p3 p4)), .second] [(.double (lx_hi p1 p2 p3 p4)), (.double (lx_s p1 p2 p3 p4))])) _
    refine XS.dcmpS X3.here hx rfl (hb hby at_150) rfl rfl ?_
    show Steps p.tables e below (T3.setTop (mkF m 151 #[.val (.int p1), .val (.int p2), .val (.int p3), .val (.int p4), .val (.int (lx_n p1 p2 p3 p4)), .val (.int (lx_k p1 p2 p3 p4)), .val (.double (lx_op p1 p2 p3 p4)), .second, .val (.double (lx_cl p1 p2 p3 p4)), .second, .val (.ref ad1), .val (.double (lx_s p1 p2 p3 p4)), .second, .val (.long (lx_p p1 p2 p3 p4)), .second, .val (.long (lx_q2 p1 p2 p3 p4)), .second, .val (.long (lx_r p1 p2 p3 p4)), .second, .val (.double (lx_lo p1 p2 p3 p4)), .second, .val (.double (lx_hi p1 p2 p3 p4)), .second] [(.int (cmpValue (FP.dcmp (lx_s p1 p2 p3 p4) (lx_hi p1 p2 p3 p4)) .g))])) _
    refine XS.ifNo X3.here hx rfl (hb hby at_151) rfl (own_e2 p1 p2 p3 p4 hr0) ?_
    show Steps p.tables e below (T3.setTop (mkF m 154 #[.val (.int p1), .val (.int p2), .val (.int p3), .val (.int p4), .val (.int (lx_n p1 p2 p3 p4)), .val (.int (lx_k p1 p2 p3 p4)), .val (.double (lx_op p1 p2 p3 p4)), .second, .val (.double (lx_cl p1 p2 p3 p4)), .second, .val (.ref ad1), .val (.double (lx_s p1 p2 p3 p4)), .second, .val (.long (lx_p p1 p2 p3 p4)), .second, .val (.long (lx_q2 p1 p2 p3 p4)), .second, .val (.long (lx_r p1 p2 p3 p4)), .second, .val (.double (lx_lo p1 p2 p3 p4)), .second, .val (.double (lx_hi p1 p2 p3 p4)), .second] [])) _
    refine XS.iconst X3.here hx rfl (hb hby at_154) ?_
    show Steps p.tables e below (T3.setTop (mkF m 155 #[.val (.int p1), .val (.int p2), .val (.int p3), .val (.int p4), .val (.int (lx_n p1 p2 p3 p4)), .val (.int (lx_k p1 p2 p3 p4)), .val (.double (lx_op p1 p2 p3 p4)), .second, .val (.double (lx_cl p1 p2 p3 p4)), .second, .val (.ref ad1), .val (.double (lx_s p1 p2 p3 p4)), .second, .val (.long (lx_p p1 p2 p3 p4)), .second, .val (.long (lx_q2 p1 p2 p3 p4)), .second, .val (.long (lx_r p1 p2 p3 p4)), .second, .val (.double (lx_lo p1 p2 p3 p4)), .second, .val (.double (lx_hi p1 p2 p3 p4)), .second] [(.int (1 : Int32))])) _
    refine XS.goto X3.here hx rfl (pc0 := 155) (pc' := 159) rfl (hb hby at_155) (by decide) (by decide) ?_
    show Steps p.tables e below (T3.setTop (mkF m 159 #[.val (.int p1), .val (.int p2), .val (.int p3), .val (.int p4), .val (.int (lx_n p1 p2 p3 p4)), .val (.int (lx_k p1 p2 p3 p4)), .val (.double (lx_op p1 p2 p3 p4)), .second, .val (.double (lx_cl p1 p2 p3 p4)), .second, .val (.ref ad1), .val (.double (lx_s p1 p2 p3 p4)), .second, .val (.long (lx_p p1 p2 p3 p4)), .second, .val (.long (lx_q2 p1 p2 p3 p4)), .second, .val (.long (lx_r p1 p2 p3 p4)), .second, .val (.double (lx_lo p1 p2 p3 p4)), .second, .val (.double (lx_hi p1 p2 p3 p4)), .second] [(.int (1 : Int32))])) _
    exact retN X3 hx (t := .boolean) Bd.returns (by simp) (hb hby at_159) hr
  · show Q_lx Z p1 p2 p3 p4  h0 n0 _ T3.heap _
    exact ⟨rfl, Nn3⟩
theorem rm_law (l : Launch) (Z : State) (a0 : Array Value) (hw : ∀ d ∈ tables_1, d.before a0 Z = true) (ws : List Jvm.Cond) (p1 p2 p3 p4 : Int32) (h0 : Heap) (n0 : Nat) (Z0 : n0 ≤ h0.size) :
    MetFree l x (head1 (Jvm.Cond.code x code maxLocals ret :: ws) room_1) (fun a U => a = #[(.int p1), (.int p2), (.int p3), (.int p4)] ∧ Z.Warmed39 U.vm ∧ U.heap = h0) (fun _ _ _ _ _ => True) (fun _ U o U' => ∃ v L, o = .returned v ∧ Q_lw Z p1 p2 p3 p4 h0 n0 v U'.heap L ∧ FrameEnd U o U' L 1 3) := by
  by_cases c : ifCond.holds .ne (XT.cmpL (lw_r p1 p2 p3 p4) (0 : Int64)) = true
  · exact rm_lx l Z a0 hw ws p1 p2 p3 p4 h0 n0 Z0 c
  · exact rm_lw l Z a0 hw ws p1 p2 p3 p4 h0 n0 Z0 (Bool.eq_false_iff.mpr c)
set_option maxRecDepth 65536 in
set_option maxHeartbeats 40000000 in
theorem comes_1 {Post : Tables → Env → Array Value → State → Outcome → State → Prop} (hpost : ∀ tb e args s v u, (limb_1_1.after args s (.returned v) u = true ∧ limb_1_2.after args s (.returned v) u = true ∧ True) → FrameEnd s (.returned v) u (Jvm.fieldLocs frame_1_writes args s ++ Jvm.arrayLocs frame_1_arrays args s ++ Jvm.staticLocs frame_1_statics s) 16 128 → Post tb e args s (.returned v) u) :
    ArmFor flags0 classFile x code maxLocals ret World_1 tables_1 room_1 Calls_1 rest_1 Pre_1 Post := by
  intro l hfl _ _ p e ha hc hk s m args below hf hA hF happ hP
  obtain ⟨hcalls, hrest, hpre⟩ := hP
  obtain ⟨-, -, -, hnamed, -, -, -, hat⟩ := (Spec.applies_iff hf).mp happ
  obtain ⟨hg, hn⟩ := and_e (Cond.before_iff.mp (show (Jvm.Cond.and given_1 narrow_1).before args s = true from hpre))
  obtain ⟨h1, g0⟩ := and_e hg
  obtain ⟨i0, g1⟩ := and_e g0
  obtain ⟨i1, g2⟩ := and_e g1
  obtain ⟨i2, g3⟩ := and_e g2
  obtain ⟨w0, w1, w2, w3, rfl⟩ : ∃ w0 w1 w2 w3 : Value, args = #[w0, w1, w2, w3] := by
    have hs : args.size = 4 := by simpa [Cond.value, given_1] using h1
    obtain ⟨L⟩ := args
    match L, hs with
    | [w0, w1, w2, w3], _ => exact ⟨w0, w1, w2, w3, rfl⟩
  have hw := fun d (hd : d ∈ tables_1) => atoms_spec (ws := Jvm.Cond.code x code maxLocals ret :: tables_1) hat d (List.mem_cons_of_mem _ hd)
  obtain ⟨v0, e0⟩ := is_v i0
  obtain rfl : w0 = (.int v0) := Option.some.inj e0
  obtain ⟨v1, e1⟩ := is_v i1
  obtain rfl : w1 = (.int v1) := Option.some.inj e1
  obtain ⟨v2, e2⟩ := is_v i2
  obtain rfl : w2 = (.int v2) := Option.some.inj e2
  obtain ⟨v3, e3⟩ := is_v g3
  obtain rfl : w3 = (.int v3) := Option.some.inj e3
  obtain ⟨n, o, h1, h2, h3, _, L, rfl, ⟨rfl, N⟩, hq⟩ := rm_law l s _ hw tables_1 v0 v1 v2 v3  s.heap s.heap.size (Nat.le_refl _)  p e ha hc hk s m _ below hf ((Spec.applies_iff_loose hf).mp happ).1 ⟨rfl, State.Warmed39.refl s, rfl⟩ trivial
  refine ⟨n, _, h1, h2, h3, hpost _ _ _ _ _ _ ⟨Cond.after_iff.mpr rfl, Cond.after_iff.mpr (eq_i res_at (Term.int_eval (1)) rfl), trivial⟩ ⟨hq.1, hq.2.1, (hq.2.2.sift fun y hy => Or.inr (N y hy)).mono (by decide) (by decide)⟩⟩
theorem main_1_1 : Claimed_1_1 := comes_1 fun _ _ _ _ _ _ h hF => ⟨h.1, hF⟩
theorem main_1_2 : Claimed_1_2 := comes_1 fun _ _ _ _ _ _ h hF => ⟨h.2.1, hF⟩
end Jvm.Pilot.@@N@@
namespace Jvm.Pilot.@@N@@
open Jvm Jvm.ClassFile Sem Op Lib Jvm.Free Jvm.Stand Jvm.Pilot.@@N@@.Jvm.D
/-! MADE BY PROGRAM (witnessworld.py) out of the Statement's table words and the real class files: 10 classes; the members and pool entries that the words name. The judged class is class 1, her method 1. -/
namespace start1
open Jvm.ClassFile
def u (s : String) : CpInfo := .utf8 (stringToUtf16 s)
/-- a pool by its gaps: so many unusable entries, then the entry; so many at the end -/
def gap : Nat → List CpInfo → List CpInfo
  | 0, r => r
  | n + 1, r => .unusable :: gap n r
def poolList (es : List (Nat × CpInfo)) (last : Nat) : List CpInfo := es.foldr (fun e r => gap e.1 (e.2 :: r)) (gap last [])
def pool (es : List (Nat × CpInfo)) (last : Nat) : Array CpInfo := ⟨poolList es last⟩
def fileOf (pool : Array CpInfo) (this : Nat) (attrs : Array Attribute := #[]) (ms : Array MethodInfo := #[]) (fl : Nat := 33) (sup : Nat := 0) (ifs : Array Nat := #[]) (fds : Array FieldInfo := #[]) : ClassFile where
  minorVersion := 0
  majorVersion := 65
  constantPool := pool
  accessFlags := fl
  thisClass := this
  superClass := sup
  interfaces := ifs
  fields := fds
  methods := ms
  attributes := attrs
def plain (name : String) (sup : Option ClassId) : Class where
  name := name
  kind := .ordinary
  loader := none
  accessFlags := 33
  super := sup
  interfaces := #[]
  cf := none
  fields := #[]
  methods := #[]
  instanceTypes := #[]
  staticTypes := #[]
  resolved := #[]
  callSites := []
  init := .initialized
  statics := none
  mirror := none

def pool0 : Array CpInfo := pool [(5, u "<init>"), (0, u "()V"), (1, .class_ 10), (1, u "java/lang/Object")] 113

def k0c0 : Code := { maxStack := 0, maxLocals := 1, code := object_method_1_code, exceptionTable := #[], attributes := #[] }
def k0m0 : Method := { name := "<init>", desc := "()V", sig := { parameters := [], returnType := none }, accessFlags := 1, code := some k0c0 }
/-- java/lang/Object -/
def k0 : Class := { plain "java/lang/Object" none with
  accessFlags := 33
  interfaces := #[]
  cf := some (fileOf pool0 8 #[] #[{ accessFlags := 1, nameIndex := 5, descriptorIndex := 6, attributes := #[] }] 33 0 #[] #[])
  fields := #[]
  methods := #[k0m0]
  instanceTypes := #[]
  staticTypes := #[]
  resolved := Array.replicate 124 none
  statics := none }

def pool1 : Array CpInfo := pool [(2, .class_ 4), (1, u "java/lang/Object"), (0, u "<init>"), (0, u "()V"), (0, .integer 2147483647), (0, .class_ 9), (0, u "com/example/trailhive/trailhive/DaySlices"), (0, .methodref 8 11), (0, .nameAndType 5 12), (0, u "(DDI)V"), (0, .methodref 8 14), (0, .nameAndType 15 16), (0, u "start"), (0, u "(I)D"), (0, .class_ 18), (0, u "com/example/trailhive/trailhive/DaySlicesStartPinLaw"), (2, u "law"), (0, u "(IIII)Z")] 3

def k1m0 : Method := { name := "<init>", desc := "()V", sig := { parameters := [], returnType := none }, accessFlags := 1, code := none }
def k1c1 : Code := { maxStack := 7, maxLocals := 23, code := code, exceptionTable := #[], attributes := #[] }
def k1m1 : Method := { name := "law", desc := "(IIII)Z", sig := { parameters := [.int, .int, .int, .int], returnType := some .boolean }, accessFlags := 9, code := some k1c1 }
/-- com/example/trailhive/trailhive/DaySlicesStartPinLaw -/
def k1 : Class := { plain "com/example/trailhive/trailhive/DaySlicesStartPinLaw" (some 0) with
  accessFlags := 49
  interfaces := #[]
  cf := some (fileOf pool1 17 #[] #[{ accessFlags := 1, nameIndex := 5, descriptorIndex := 6, attributes := #[] }, { accessFlags := 9, nameIndex := 21, descriptorIndex := 22, attributes := #[] }] 49 2 #[] #[])
  fields := #[]
  methods := #[k1m0, k1m1]
  instanceTypes := #[]
  staticTypes := #[]
  resolved := Array.replicate 26 none
  statics := none }

def pool2 : Array CpInfo := pool [(1, .methodref 2 3), (0, .class_ 4), (0, .nameAndType 5 6), (0, u "java/lang/Object"), (0, u "<init>"), (0, u "()V"), (0, .class_ 8), (0, u "java/lang/Record")] 13

def k2c0 : Code := { maxStack := 1, maxLocals := 1, code := jdk_30_method_1_code, exceptionTable := #[], attributes := #[] }
def k2m0 : Method := { name := "<init>", desc := "()V", sig := { parameters := [], returnType := none }, accessFlags := 4, code := some k2c0 }
/-- java/lang/Record -/
def k2 : Class := { plain "java/lang/Record" (some 0) with
  accessFlags := 1057
  interfaces := #[]
  cf := some (fileOf pool2 7 #[] #[{ accessFlags := 4, nameIndex := 5, descriptorIndex := 6, attributes := #[] }] 1057 2 #[] #[])
  fields := #[]
  methods := #[k2m0]
  instanceTypes := #[]
  staticTypes := #[]
  resolved := Array.replicate 22 none
  statics := none }

def pool3 : Array CpInfo := pool [(1, .methodref 2 3), (0, .class_ 4), (0, .nameAndType 5 6), (0, u "java/lang/Record"), (0, u "<init>"), (0, u "()V"), (9, .fieldref 17 18), (0, .class_ 19), (0, .nameAndType 20 21), (0, u "com/example/trailhive/trailhive/DaySlices"), (0, u "opens"), (0, u "D"), (0, .fieldref 17 23), (0, .nameAndType 24 21), (0, u "closes"), (0, .fieldref 17 26), (0, .nameAndType 27 28), (0, u "count"), (0, u "I"), (11, u "(DDI)V"), (3, .methodref 17 45), (0, .nameAndType 46 47), (0, u "boundary"), (0, u "(I)D"), (12, u "DEFAULT_COUNT"), (2, u "TOO_FEW"), (0, u "Ljava/lang/String;"), (8, u "start")] 35

def k3c0 : Code := { maxStack := 3, maxLocals := 6, code := prog_17_method_1_code, exceptionTable := #[], attributes := #[] }
def k3m0 : Method := { name := "<init>", desc := "(DDI)V", sig := { parameters := [.double, .double, .int], returnType := none }, accessFlags := 0, code := some k3c0 }
def k3c1 : Code := { maxStack := 4, maxLocals := 2, code := prog_17_method_3_code, exceptionTable := #[], attributes := #[] }
def k3m1 : Method := { name := "start", desc := "(I)D", sig := { parameters := [.int], returnType := some .double }, accessFlags := 0, code := some k3c1 }
def k3c2 : Code := { maxStack := 6, maxLocals := 2, code := prog_17_method_4_code, exceptionTable := #[], attributes := #[] }
def k3m2 : Method := { name := "boundary", desc := "(I)D", sig := { parameters := [.int], returnType := some .double }, accessFlags := 0, code := some k3c2 }
/-- com/example/trailhive/trailhive/DaySlices -/
def k3 : Class := { plain "com/example/trailhive/trailhive/DaySlices" (some 2) with
  accessFlags := 48
  interfaces := #[]
  cf := some (fileOf pool3 17 #[] #[{ accessFlags := 0, nameIndex := 5, descriptorIndex := 40, attributes := #[] }, { accessFlags := 0, nameIndex := 73, descriptorIndex := 47, attributes := #[] }, { accessFlags := 0, nameIndex := 46, descriptorIndex := 47, attributes := #[] }] 48 2 #[] #[{ accessFlags := 18, nameIndex := 20, descriptorIndex := 21, attributes := #[] }, { accessFlags := 18, nameIndex := 24, descriptorIndex := 21, attributes := #[] }, { accessFlags := 18, nameIndex := 27, descriptorIndex := 28, attributes := #[] }, { accessFlags := 24, nameIndex := 60, descriptorIndex := 28, attributes := #[] }, { accessFlags := 24, nameIndex := 63, descriptorIndex := 64, attributes := #[] }])
  fields := #[{ name := "opens", type := .double, accessFlags := 18, slot := 0, constantValue := 0 }, { name := "closes", type := .double, accessFlags := 18, slot := 1, constantValue := 0 }, { name := "count", type := .int, accessFlags := 18, slot := 2, constantValue := 0 }, { name := "DEFAULT_COUNT", type := .int, accessFlags := 24, slot := 0, constantValue := 0 }, { name := "TOO_FEW", type := (.object "java/lang/String"), accessFlags := 24, slot := 1, constantValue := 0 }]
  methods := #[k3m0, k3m1, k3m2]
  instanceTypes := #[.double, .double, .int]
  staticTypes := #[.int, (.object "java/lang/String")]
  resolved := Array.replicate 109 none
  statics := none }

def pool4 : Array CpInfo := pool [(1, u "java/lang/Cloneable"), (0, .class_ 1), (0, u "java/lang/Object"), (0, .class_ 3)] 3

/-- java/lang/Cloneable -/
def k4 : Class := { plain "java/lang/Cloneable" (some 0) with
  accessFlags := 1537
  interfaces := #[]
  cf := some (fileOf pool4 2 #[] #[] 1537 4 #[] #[])
  fields := #[]
  methods := #[]
  instanceTypes := #[]
  staticTypes := #[]
  resolved := Array.replicate 8 none
  statics := none }

def pool5 : Array CpInfo := pool [(1, u "java/io/Serializable"), (0, .class_ 1), (0, u "java/lang/Object"), (0, .class_ 3)] 3

/-- java/io/Serializable -/
def k5 : Class := { plain "java/io/Serializable" (some 0) with
  accessFlags := 1537
  interfaces := #[]
  cf := some (fileOf pool5 2 #[] #[] 1537 4 #[] #[])
  fields := #[]
  methods := #[]
  instanceTypes := #[]
  staticTypes := #[]
  resolved := Array.replicate 8 none
  statics := none }

/-- the primitive byte -/
def k6 : Class := { plain "byte" none with kind := .primitive 'B', accessFlags := 0x411 }
/-- [B -/
def k7 : Class := { plain "[B" (some 0) with kind := .array 6 .byte, interfaces := #[4, 5], accessFlags := 1041 }

/-- the primitive int -/
def k8 : Class := { plain "int" none with kind := .primitive 'I', accessFlags := 0x411 }
/-- [I -/
def k9 : Class := { plain "[I" (some 0) with kind := .array 8 .int, interfaces := #[4, 5], accessFlags := 1041 }

def heap : Heap := #[]
def classes : Array Class := #[k0, k1, k2, k3, k4, k5, k6, k7, k8, k9]
def interned : List (Array UInt16 × Addr) := []
def slotsUsed : Nat := 0
def theMethod : MethodId := ⟨1, 1⟩
def args0 : Array Value := #[.int 3, .int 4, .int 5, .int 6]
def aboutOver (below : List Frame) : State where
  vm := { classes := classes, interned := interned.toArray }
  heap := heap
  slotsUsed := slotsUsed
  threads := #[{ frames := .invoking theMethod args0 :: below }]
def below0 : List Frame := [.native { method := ⟨0, 0⟩, args := #[] }]
def about1 : State := aboutOver below0
def p0 : Program := .bare "" "" ""
def e0 : Env := launch0.env 0 0 0
theorem w_frames : about1.frames = Frame.invoking theMethod args0 :: below0 := rfl
set_option maxRecDepth 65536 in
theorem w_args : argsFit about1.vm theMethod args0 = true := by decide +kernel
set_option maxRecDepth 65536 in
theorem w_heap : heapFits about1 = true := by decide +kernel
set_option maxRecDepth 65536 in
theorem w_runnable : about1.curStatus? = some .runnable := by decide +kernel
set_option maxRecDepth 65536 in
theorem w_alone : about1.alone = true := by decide +kernel
set_option maxRecDepth 65536 in
theorem w_named : about1.methodNamed? x = some theMethod := by decide +kernel
set_option maxRecDepth 65536 in
theorem w_hears : about1.hears theMethod below0 = true := by decide +kernel
set_option maxRecDepth 65536 in
theorem w_ripe : about1.ripe theMethod args0 below0 = true := by decide +kernel
theorem w_running : about1.status = .running := rfl
set_option maxRecDepth 65536 in
theorem w_room : about1.hasRoom e0.platform room_1 = true :=
  launch0.hasRoom_least _ room_1 (by decide +kernel) (by decide +kernel) (by decide +kernel) (by decide +kernel) (by decide +kernel) (by decide +kernel)
theorem allAtoms_all (ts : List Jvm.Cond) (a : Array Jvm.Value) (st : Jvm.State) : (allAtoms ts).before a st = ts.all (fun c => c.before a st) := by
  induction ts with
  | nil => rfl
  | cons c t ih =>
    show (Jvm.Cond.and c (allAtoms t)).before a st = _
    rw [Jvm.Cond.before_and, ih, List.all_cons]
def words1 : List Jvm.Cond := Jvm.Cond.code x code maxLocals ret :: tables_1
/-- a 'code' word, met by the world's own term for the bytes: nothing is compared byte by byte -/
theorem code_word {y : MethodName} {bytes : ByteArray} {mx : Nat} {rt : Option FieldType} {a : Array Value} {s : State} {m : MethodId} {meth : Method} {c : Code} (h1 : s.methodNamed? y = some m) (h2 : s.vm.method? m = some meth) (h3 : meth.code = some c) (h4 : c.code = bytes)
    (h5 : (c.maxLocals == mx && c.exceptionTable.isEmpty && decide (c.maxStack ≤ mostOperands) && decide (meth.sig.returnType = rt) && !meth.locks && decide (parseMethodDescriptor y.desc = some meth.sig)) = true) : (Jvm.Cond.code y bytes mx rt).before a s = true := by
  simp only [Bool.and_eq_true, beq_iff_eq, Bool.not_eq_true', decide_eq_true_eq] at h5
  obtain ⟨⟨⟨⟨⟨g1, g2⟩, g3⟩, g4⟩, g5⟩, g6⟩ := h5
  simp [Cond.before, Cond.holds, Cond.value, h1, h2, h3, h4, g1, g2, g3, g4, g5, g6]
def isCode : Jvm.Cond → Bool
  | .code _ _ _ _ => true
  | _ => false
theorem all_split {L : List Jvm.Cond} {P : Jvm.Cond → Bool} (h1 : L.all (fun c => isCode c || P c) = true) (h2 : ∀ c ∈ L.filter isCode, P c = true) : L.all P = true := by
  refine List.all_eq_true.mpr fun c hc => ?_
  have h := List.all_eq_true.mp h1 c hc
  rcases Bool.eq_false_or_eq_true (isCode c) with hi | hi
  · exact h2 c (List.mem_filter.mpr ⟨hc, hi⟩)
  · simpa [hi] using h
set_option maxRecDepth 65536 in
theorem w_c0 : (Jvm.Cond.code x code maxLocals ret).before args0 about1 = true := code_word (m := ⟨1, 1⟩) (meth := k1m1) (c := k1c1) (by decide +kernel) rfl rfl rfl (by decide +kernel)
set_option maxRecDepth 65536 in
theorem w_c1 : (Jvm.Cond.code ({ cls := "com/example/trailhive/trailhive/DaySlices", name := "<init>", desc := "(DDI)V" } : Jvm.MethodName) prog_17_method_1_code (6 : Nat) (Option.none : Option Jvm.ClassFile.FieldType)).before args0 about1 = true := code_word (m := ⟨3, 0⟩) (meth := k3m0) (c := k3c0) (by decide +kernel) rfl rfl rfl (by decide +kernel)
set_option maxRecDepth 65536 in
theorem w_c2 : (Jvm.Cond.code ({ cls := "java/lang/Record", name := "<init>", desc := "()V" } : Jvm.MethodName) jdk_30_method_1_code (1 : Nat) (Option.none : Option Jvm.ClassFile.FieldType)).before args0 about1 = true := code_word (m := ⟨2, 0⟩) (meth := k2m0) (c := k2c0) (by decide +kernel) rfl rfl rfl (by decide +kernel)
set_option maxRecDepth 65536 in
theorem w_c3 : (Jvm.Cond.code ({ cls := "java/lang/Object", name := "<init>", desc := "()V" } : Jvm.MethodName) object_method_1_code (1 : Nat) (Option.none : Option Jvm.ClassFile.FieldType)).before args0 about1 = true := code_word (m := ⟨0, 0⟩) (meth := k0m0) (c := k0c0) (by decide +kernel) rfl rfl rfl (by decide +kernel)
set_option maxRecDepth 65536 in
theorem w_c4 : (Jvm.Cond.code ({ cls := "com/example/trailhive/trailhive/DaySlices", name := "start", desc := "(I)D" } : Jvm.MethodName) prog_17_method_3_code (2 : Nat) (Option.some Jvm.ClassFile.FieldType.double)).before args0 about1 = true := code_word (m := ⟨3, 1⟩) (meth := k3m1) (c := k3c1) (by decide +kernel) rfl rfl rfl (by decide +kernel)
set_option maxRecDepth 65536 in
theorem w_c5 : (Jvm.Cond.code ({ cls := "com/example/trailhive/trailhive/DaySlices", name := "boundary", desc := "(I)D" } : Jvm.MethodName) prog_17_method_4_code (2 : Nat) (Option.some Jvm.ClassFile.FieldType.double)).before args0 about1 = true := code_word (m := ⟨3, 2⟩) (meth := k3m2) (c := k3c2) (by decide +kernel) rfl rfl rfl (by decide +kernel)
def codes1 : List Jvm.Cond := [Jvm.Cond.code x code maxLocals ret, Jvm.Cond.code ({ cls := "com/example/trailhive/trailhive/DaySlices", name := "<init>", desc := "(DDI)V" } : Jvm.MethodName) prog_17_method_1_code (6 : Nat) (Option.none : Option Jvm.ClassFile.FieldType), Jvm.Cond.code ({ cls := "java/lang/Record", name := "<init>", desc := "()V" } : Jvm.MethodName) jdk_30_method_1_code (1 : Nat) (Option.none : Option Jvm.ClassFile.FieldType), Jvm.Cond.code ({ cls := "java/lang/Object", name := "<init>", desc := "()V" } : Jvm.MethodName) object_method_1_code (1 : Nat) (Option.none : Option Jvm.ClassFile.FieldType), Jvm.Cond.code ({ cls := "com/example/trailhive/trailhive/DaySlices", name := "start", desc := "(I)D" } : Jvm.MethodName) prog_17_method_3_code (2 : Nat) (Option.some Jvm.ClassFile.FieldType.double), Jvm.Cond.code ({ cls := "com/example/trailhive/trailhive/DaySlices", name := "boundary", desc := "(I)D" } : Jvm.MethodName) prog_17_method_4_code (2 : Nat) (Option.some Jvm.ClassFile.FieldType.double)]
set_option maxRecDepth 65536 in
theorem codes_eq : words1.filter isCode = codes1 := rfl
theorem w_codes : ∀ c ∈ words1.filter isCode, c.before args0 about1 = true := by
  rw [codes_eq]
  intro c hc
  simp only [codes1, List.mem_cons, List.not_mem_nil, or_false] at hc
  rcases hc with rfl | rfl | rfl | rfl | rfl | rfl
  · exact w_c0
  · exact w_c1
  · exact w_c2
  · exact w_c3
  · exact w_c4
  · exact w_c5
set_option maxRecDepth 65536 in
theorem w_t1 : (words1.take 24).all (fun c => isCode c || c.before args0 about1) = true := by decide +kernel
set_option maxRecDepth 65536 in
theorem w_t2 : (words1.drop 24).all (fun c => isCode c || c.before args0 about1) = true := by decide +kernel
theorem w_tables : (allAtoms (Jvm.Cond.code x code maxLocals ret :: tables_1)).before args0 about1 = true := by
  rw [allAtoms_all]
  show words1.all (fun c => c.before args0 about1) = true
  refine all_split ?_ w_codes
  rw [← List.take_append_drop 24 words1, List.all_append, w_t1, w_t2]
  rfl
set_option maxRecDepth 65536 in
theorem w_case : (Jvm.Cond.and given_1 narrow_1).before args0 about1 = true := by decide +kernel
theorem w_applies : (headSpec (Jvm.Cond.code x code maxLocals ret :: tables_1) room_1).applies x e0.platform about1 = true :=
  (Spec.applies_iff w_frames).mpr ⟨w_running, w_runnable, w_alone, w_named, w_hears, w_ripe, w_room, w_tables⟩
theorem atStart : AtStart classFile x code maxLocals ret World_1 tables_1 room_1 Calls_1 rest_1 Pre_1 launch0 p0 e0 about1 theMethod args0 below0 :=
  ⟨lists_1, trivial, launch0.admits_env _ _ _, launch0.least_env, fairChoices_fair.cas, fairChoices_fair.clock, w_frames, w_args, w_heap, w_applies, trivial, trivial, w_case⟩
end start1
theorem witness_1 : WitnessClaimed_1 := ⟨start1.p0, start1.e0, start1.about1, start1.theMethod, start1.args0, start1.below0, start1.atStart⟩
end Jvm.Pilot.@@N@@
